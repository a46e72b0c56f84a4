import JvmDerived
import JvmDerived.Pilot.@@N@@Statement
import JvmDerived.Pilot.@@N@@Code
set_option linter.unusedVariables false
set_option linter.unusedSimpArgs false
namespace Jvm.RoadKit
open Sem ClassFile Op Lib Jvm.Stand Jvm.Free Jvm.LawKit
section New
variable {p : Program} {l : Launch} {e : Env} {R : Room} {s : State} {m : MethodId} {args : Array Value} {below : List Frame} {meth : Method} {c : Code} {T : State} {locs : List Loc} {cells slots : Nat}
theorem retI (X : Stand p l e R s m args below meth c T locs cells slots) (hx : p.tables.exec = Jvm.exec) {pc : Nat} {Ls : Array Slot} {z : Int32} {rest : List Value} (hret : meth.sig.returnType = some .int) (hd : decode c.code pc = .ok (.ireturn, 1)) {fs : List Frame}
    (hl : ∀ (f : JFrame) (acts : List Action), f.method = m → f.locked = none → f.entered = [] → (doReturn e (T.setTop f) acts (some (.int z))).1 = T.setFrames fs) : Steps p.tables e below (T.setTop (mkF m pc Ls (.int z :: rest))) (T.setFrames fs) := by
  have hm' : T.vm.method? m = some meth := X.method'
  have hn : narrow .int (.int z) = .int z := rfl
  show Steps p.tables e below (T.setTop { method := m, pc := pc, locals := Ls, stack := _ :: rest, locked := none }) _
  jvm_step X.here [X.here.top, hx, hd, hm', hret, hn]
  first | (intro acts; rw [hl _ acts rfl rfl rfl]) | rw [hl _ _ rfl rfl rfl]
  exact Steps.refl _
end New
end Jvm.RoadKit
@@BLOCK:NumsL.lean.txt@@
namespace Jvm.Pilot.@@N@@
open Jvm Jvm.ClassFile Sem Op Lib Jvm.Free Jvm.Stand Jvm.LawKit Jvm.RoadKit Bundle Jvm.Pilot.@@N@@.Jvm.D
def own_End (p : Program) (e : Env) (below : List Frame) (P : Outcome → State → Prop) (S : State) : Prop :=
  ∃ s₂ o, Steps p.tables e below S s₂ ∧ s₂.status = .running ∧ Ended s₂ below o ∧ P o s₂
abbrev own_Met (l : Launch) (Z : State) (y : MethodName) (bytes : ByteArray) (maxL : Nat) (rt : Option FieldType) (ws : List Jvm.Cond) (rm : Room) (as' : Array Value) (h0 : Heap) (Q : Option Value → Heap → List Loc → Prop) : Prop :=
  MetFree l y (head1 (Jvm.Cond.code y bytes maxL rt :: ws) rm) (fun a U => a = as' ∧ Z.Warmed39 U.vm ∧ U.heap = h0) (fun _ _ _ _ _ => True) (fun _ U o U' => ∃ v L, o = .returned v ∧ Q v U'.heap L ∧ FrameEnd U o U' L rm.cells rm.slots)
def own_Ok (Q : Option Value → Heap → List Loc → Prop) (s : State) (kc ks : Nat) (P : Outcome → State → Prop) : Prop := ∀ v U L, Q v U.heap L → FrameEnd s (.returned v) U L kc ks → P (.returned v) U
section Own
variable {p : Program} {l : Launch} {e : Env} {R : Room} {s : State} {m : MethodId} {args : Array Value} {below : List Frame} {meth : Method} {c : Code} {T : State} {locs : List Loc} {cells slots : Nat} {Z : State} {a0 : Array Value} {h : Heap} {P : Outcome → State → Prop}
theorem own_st {S S' : State} (q : ∀ t, Steps p.tables e below S' t → Steps p.tables e below S t) (k : own_End p e below P S') : own_End p e below P S := by
  obtain ⟨a, b, c, d⟩ := k
  exact ⟨a, b, q _ c, d⟩
theorem own_tr {S S' : State} (q : Steps p.tables e below S S') (k : own_End p e below P S') : own_End p e below P S := own_st (fun _ r => q.trans r) k
theorem own_enter {y : MethodName} {bytes : ByteArray} {maxL : Nat} {rt : Option FieldType} {ws : List Jvm.Cond} {rm : Room} {as' : Array Value} {h0 : Heap} {Q : Option Value → Heap → List Loc → Prop} (hpl : plainFor y = true)
    (body : ∀ (p : Program) (e : Env) (s : State) (m : MethodId) (below : List Frame) (meth : Method) (c : Code) (s₁ : State) (P : Outcome → State → Prop), p.tables.exec = Jvm.exec → c.code = bytes → c.maxLocals = maxL → meth.sig.returnType = rt → meth.locks = false → s.vm.findClass y.cls = some m.cls → meth.name = y.name → Z.Warmed39 s.vm →
      Stand p l e rm s m as' below meth c s₁ [] 0 0 → s₁.heap = h0 → own_Ok Q s rm.cells rm.slots P → own_End p e below P (s₁.setTop (entryFrame m as' maxL))) :
    own_Met l Z y bytes maxL rt ws rm as' h0 Q := by
  refine MetFree.of_bodySF hpl hisR ?_
  intro p e s m args below meth c s₁ Bd hml0 hP hK
  obtain ⟨rfl, hZ, hh⟩ := hP
  exact body p e s m below meth c s₁ _ Bd.exec Bd.bytes hml0 Bd.returns Bd.notSynchronized (findClass_of_methodNamed Bd.named) (name_of_methodNamed Bd.named Bd.method).1 hZ (Stand.of_body Bd) (by rw [← hh, Bd.state]; rfl) (fun v U L q f => ⟨v, L, rfl, q, f⟩)
theorem own_cast {g g' : JFrame} (q : g = g') (k : own_End p e below P (T.setTop g')) : own_End p e below P (T.setTop g) := q ▸ k
theorem own_retI (X : Stand p l e R s m args below meth c T locs cells slots) (hx : p.tables.exec = Jvm.exec) (hlk : meth.locks = false) {kc ks : Nat} {Q : Option Value → Heap → List Loc → Prop} (hP : own_Ok Q s kc ks P)
    {pc : Nat} {Ls : Array Slot} {z : Int32} {rest : List Value} (hret : meth.sig.returnType = some .int) (hd : decode c.code pc = .ok (.ireturn, 1)) (h1 : cells ≤ kc) (h2 : slots ≤ ks) (hq : Q (some (.int z)) T.heap locs) : own_End p e below P (T.setTop (mkF m pc Ls (.int z :: rest))) := by
  obtain ⟨fs, hr, hrun, hended, hW, hsame⟩ := X.leave (v := some (.int z)) (fun h => by rw [hret] at h; cases h) hlk
  exact ⟨_, _, retI X hx hret hd hr, hrun, hended, hP _ _ locs hq ⟨⟨_, rfl⟩, hW, hsame.mono h1 h2⟩⟩
theorem own_retN (X : Stand p l e R s m args below meth c T locs cells slots) (hx : p.tables.exec = Jvm.exec) (hlk : meth.locks = false) {kc ks : Nat} {Q : Option Value → Heap → List Loc → Prop} (hP : own_Ok Q s kc ks P)
    {pc : Nat} {Ls : Array Slot} {z : Int32} {t : FieldType} {rest : List Value} (ht : t = .boolean ∨ t = .byte ∨ t = .char ∨ t = .short) (hret : meth.sig.returnType = some t) (hd : decode c.code pc = .ok (.ireturn, 1)) (h1 : cells ≤ kc) (h2 : slots ≤ ks) (hq : Q (some (.int (nar t z))) T.heap locs) : own_End p e below P (T.setTop (mkF m pc Ls (.int z :: rest))) := by
  obtain ⟨fs, hr, hrun, hended, hW, hsame⟩ := X.leave (v := some (.int (nar t z))) (fun h => by rw [hret] at h; cases h) hlk
  exact ⟨_, _, retN X hx hret ht hd hr, hrun, hended, hP _ _ locs hq ⟨⟨_, rfl⟩, hW, hsame.mono h1 h2⟩⟩
theorem own_retL (X : Stand p l e R s m args below meth c T locs cells slots) (hx : p.tables.exec = Jvm.exec) (hlk : meth.locks = false) {kc ks : Nat} {Q : Option Value → Heap → List Loc → Prop} (hP : own_Ok Q s kc ks P)
    {pc : Nat} {Ls : Array Slot} {z : Int64} {rest : List Value} (hret : meth.sig.returnType = some .long) (hd : decode c.code pc = .ok (.lreturn, 1)) (h1 : cells ≤ kc) (h2 : slots ≤ ks) (hq : Q (some (.long z)) T.heap locs) : own_End p e below P (T.setTop (mkF m pc Ls (.long z :: rest))) := by
  obtain ⟨fs, hr, hrun, hended, hW, hsame⟩ := X.leave (v := some (.long z)) (fun h => by rw [hret] at h; cases h) hlk
  exact ⟨_, _, retOut X hx hret rfl (Or.inr (Or.inl ⟨rfl, rfl, z, rfl⟩)) hd hr, hrun, hended, hP _ _ locs hq ⟨⟨_, rfl⟩, hW, hsame.mono h1 h2⟩⟩
theorem own_retR (X : Stand p l e R s m args below meth c T locs cells slots) (hx : p.tables.exec = Jvm.exec) (hlk : meth.locks = false) {kc ks : Nat} {Q : Option Value → Heap → List Loc → Prop} (hP : own_Ok Q s kc ks P)
    {pc : Nat} {Ls : Array Slot} {w : Value} {t : FieldType} {rest : List Value} (hw : w.isRef = true) (ht : t.isReference = true) (hret : meth.sig.returnType = some t) (hd : decode c.code pc = .ok (.areturn, 1)) (h1 : cells ≤ kc) (h2 : slots ≤ ks) (hq : Q (some w) T.heap locs) : own_End p e below P (T.setTop (mkF m pc Ls (w :: rest))) := by
  obtain ⟨fs, hr, hrun, hended, hW, hsame⟩ := X.leave (v := some w) (fun h => by rw [hret] at h; cases h) hlk
  have hn : narrow t w = w := by rcases ref_cases hw with rfl | ⟨a, rfl⟩ <;> cases t <;> rfl
  exact ⟨_, _, retOut X hx hret hn (Or.inr (Or.inr (Or.inr (Or.inr ⟨rfl, ht, hw⟩)))) hd hr, hrun, hended, hP _ _ locs hq ⟨⟨_, rfl⟩, hW, hsame.mono h1 h2⟩⟩
theorem own_retV (X : Stand p l e R s m args below meth c T locs cells slots) (hx : p.tables.exec = Jvm.exec) (hlk : meth.locks = false) {kc ks : Nat} {Q : Option Value → Heap → List Loc → Prop} (hP : own_Ok Q s kc ks P)
    {pc : Nat} {Ls : Array Slot} (hret : meth.sig.returnType = none) (hd : decode c.code pc = .ok (.return_, 1)) (h1 : cells ≤ kc) (h2 : slots ≤ ks) (hq : Q none T.heap locs) : own_End p e below P (T.setTop (mkF m pc Ls [])) := by
  obtain ⟨fs, hr, hrun, hended, hW, hsame⟩ := X.leave (v := none) (fun _ => rfl) hlk
  exact ⟨_, _, X.returnOut hx hret hd hr, hrun, hended, hP _ _ locs hq ⟨⟨_, rfl⟩, hW, hsame.mono h1 h2⟩⟩
theorem own_callS (X : Stand p l e R s m args below meth c T locs cells slots) (hx : p.tables.exec = Jvm.exec) (hZ : Z.Warmed39 s.vm) {own : String} {index : Nat} {y : MethodName} {bytes : ByteArray} {maxL : Nat} {rt : Option FieldType} {rm : Room} {as' : Array Value} {Q : Option Value → Heap → List Loc → Prop}
    (hown : s.vm.findClass own = some m.cls) (w1 : (Jvm.Cond.methodLink own index y).before a0 Z = true) (w2 : (Jvm.Cond.static y).before a0 Z = true) (w3 : (Jvm.Cond.initialized y.cls).before a0 Z = true) (w4 : (Jvm.Cond.code y bytes maxL rt).before a0 Z = true) (hy : y.cls ≠ "java/lang/invoke/MethodHandle" ∧ y.cls ≠ "java/lang/invoke/VarHandle")
    (hM : own_Met l Z y bytes maxL rt [] rm as' h Q) (W : Nat) (hf : rm.frames + 1 ≤ R.frames) (hl : W + (maxL + 11) + rm.locals ≤ R.locals) (eT : T.heap = h) (hc : cells + rm.cells ≤ R.cells) (hs : slots + rm.slots ≤ R.slots)
    {g : JFrame} (hg : g.method = m) (hsize : g.locals.size = c.maxLocals) {argsL rest : List Value} (ha : argsL.toArray = as') (hlen : ∀ sig, parseMethodDescriptor y.desc = some sig → argsL.length = sig.parameters.length) (hstack : g.stack = argsL.reverse ++ rest) (hW : 2 * g.monitorRoom + (rest.map fun v => v.category).sum ≤ W) (hdg : decode c.code g.pc = .ok (.invokestatic index, 3))
    (k : ∀ v T' L, Stand p l e R s m args below meth c T' (locs ++ L) (cells + rm.cells) (slots + rm.slots) → Q v T'.heap L → own_End p e below P (T'.setTop { g with pc := g.pc + 3, stack := v.toList ++ rest })) : own_End p e below P (T.setTop g) := by
  obtain ⟨v, vm₁, ⟨T', L', k', n'⟩, -, X', ⟨L, hQ, h1, h2, h3⟩, st⟩ := Jvm.LawKit.callS X hx hown (mvT hZ w1) (mvT hZ w2) (mvT hZ w3) (mvT hZ w4) hy (backOf (W := W) hM hZ w4 w3 hf hl) hg hsize hlen hstack hW hdg (fun _ _ => ⟨ha, eT, hc, hs⟩)
  dsimp only [Pt.U, Pt.locs, Pt.cells, Pt.slots] at X' h1 h2 h3 st hQ
  subst h1 h2 h3
  exact own_st st (k v T' L X' hQ)
theorem own_callI (X : Stand p l e R s m args below meth c T locs cells slots) (hx : p.tables.exec = Jvm.exec) (hZ : Z.Warmed39 s.vm) {own : String} {index : Nat} {y : MethodName} {bytes : ByteArray} {maxL : Nat} {rm : Room} {as' : Array Value} {Q : Option Value → Heap → List Loc → Prop}
    (hy1 : y.name = "<init>") (hown : s.vm.findClass own = some m.cls) (w1 : (Jvm.Cond.methodLink own index y).before a0 Z = true) (w2 : (Jvm.Cond.instanceMethod y).before a0 Z = true) (w3 : (Jvm.Cond.initialized y.cls).before a0 Z = true) (w4 : (Jvm.Cond.code y bytes maxL none).before a0 Z = true) (hy : y.cls ≠ "java/lang/invoke/MethodHandle" ∧ y.cls ≠ "java/lang/invoke/VarHandle")
    (hM : own_Met l Z y bytes maxL none [] rm as' h Q) (W : Nat) (hf : rm.frames + 1 ≤ R.frames) (hl : W + (maxL + 11) + rm.locals ≤ R.locals) (eT : T.heap = h) (hc : cells + rm.cells ≤ R.cells) (hs : slots + rm.slots ≤ R.slots)
    {g : JFrame} (hg : g.method = m) (hsize : g.locals.size = c.maxLocals) {a : Addr} {argsL rest : List Value} (ha : (Value.ref a :: argsL).toArray = as') (hlen : ∀ sig, parseMethodDescriptor y.desc = some sig → argsL.length = sig.parameters.length) (hstack : g.stack = argsL.reverse ++ .ref a :: rest) (hW : 2 * g.monitorRoom + (rest.map fun v => v.category).sum ≤ W) (hdg : decode c.code g.pc = .ok (.invokespecial index, 3))
    (k : ∀ v T' L, Stand p l e R s m args below meth c T' (locs ++ L) (cells + rm.cells) (slots + rm.slots) → Q v T'.heap L → own_End p e below P (T'.setTop { g with pc := g.pc + 3, stack := v.toList ++ rest })) : own_End p e below P (T.setTop g) := by
  obtain ⟨v, vm₁, ⟨T', L', k', n'⟩, -, X', ⟨L, hQ, h1, h2, h3⟩, st⟩ := X.specialBack hx hy1 hown (mvT hZ w1) (mvT hZ w2) (mvT hZ w4) hy (backOf (W := W) hM hZ w4 w3 hf hl) hg hsize (Steps.refl _) hlen hstack hW hdg (fun _ _ => ⟨ha, eT, hc, hs⟩)
  dsimp only [Pt.U, Pt.locs, Pt.cells, Pt.slots] at X' h1 h2 h3 st hQ
  subst h1 h2 h3
  exact own_tr st (k v T' L X' hQ)
theorem own_callV (X : Stand p l e R s m args below meth c T locs cells slots) (hx : p.tables.exec = Jvm.exec) (hZ : Z.Warmed39 s.vm) {own C : String} {index : Nat} {y z : MethodName} {bytes : ByteArray} {maxL : Nat} {rt : Option FieldType} {rm : Room} {as' : Array Value} {Q : Option Value → Heap → List Loc → Prop}
    (hown : s.vm.findClass own = some m.cls) (w1 : (Jvm.Cond.methodLink own index y).before a0 Z = true) (w2 : (Jvm.Cond.declares y).before a0 Z = true) (hnf : NotFace s y) (w5 : (Jvm.Cond.selects C y z).before a0 Z = true) (w6 : (Jvm.Cond.instanceMethod z).before a0 Z = true) (w3 : (Jvm.Cond.initialized z.cls).before a0 Z = true) (w4 : (Jvm.Cond.code z bytes maxL rt).before a0 Z = true) (hy : y.cls ≠ "java/lang/invoke/MethodHandle" ∧ y.cls ≠ "java/lang/invoke/VarHandle")
    {a : Addr} (E : Exa Z h a C) (hM : own_Met l Z z bytes maxL rt [] rm as' h Q) (W : Nat) (hf : rm.frames + 1 ≤ R.frames) (hl : W + (maxL + 11) + rm.locals ≤ R.locals) (eT : T.heap = h) (hc : cells + rm.cells ≤ R.cells) (hs : slots + rm.slots ≤ R.slots)
    {g : JFrame} (hg : g.method = m) (hsize : g.locals.size = c.maxLocals) {argsL rest : List Value} (ha : (Value.ref a :: argsL).toArray = as') (hlen : ∀ sig, parseMethodDescriptor y.desc = some sig → argsL.length = sig.parameters.length) (hstack : g.stack = argsL.reverse ++ .ref a :: rest) (hW : 2 * g.monitorRoom + (rest.map fun v => v.category).sum ≤ W) (hdg : decode c.code g.pc = .ok (.invokevirtual index, 3))
    (k : ∀ v T' L, Stand p l e R s m args below meth c T' (locs ++ L) (cells + rm.cells) (slots + rm.slots) → Q v T'.heap L → own_End p e below P (T'.setTop { g with pc := g.pc + 3, stack := v.toList ++ rest })) : own_End p e below P (T.setTop g) := by
  obtain ⟨cB, kB, q1, q2, q3⟩ := isOf hZ eT E
  obtain ⟨v, vm₁, ⟨T', L', k', n'⟩, -, X', ⟨L, hQ, h1, h2, h3⟩, st⟩ := X.virtualBack hx (y := y) (z := z) hown (mvT hZ w1) (mvT hZ w2) hnf (mvT hZ w5) (mvT hZ w6) hy (backOf (W := W) hM hZ w4 w3 hf hl) q1 q3 hg hsize (Steps.refl _) hlen hstack hW hdg (fun _ _ => ⟨ha, eT, hc, hs⟩)
  dsimp only [Pt.U, Pt.locs, Pt.cells, Pt.slots] at X' h1 h2 h3 st hQ
  subst h1 h2 h3
  exact own_tr st (k v T' L X' hQ)
theorem own_callU (X : Stand p l e R s m args below meth c T locs cells slots) (hx : p.tables.exec = Jvm.exec) (hZ : Z.Warmed39 s.vm) {own C owner : String} {index : Nat} {x y : MethodName} {bytes : ByteArray} {maxL : Nat} {rt : Option FieldType} {rm : Room} {as' : Array Value} {Q : Option Value → Heap → List Loc → Prop}
    (hown : s.vm.findClass own = some m.cls) (w1 : (Jvm.Cond.methodLink own index x).before a0 Z = true) (w2 : (Jvm.Cond.sameMethod x.cls owner x.name x.desc).before a0 Z = true) (w7 : (Jvm.Cond.declares ⟨owner, x.name, x.desc⟩).before a0 Z = true) (hy : owner ≠ "java/lang/invoke/MethodHandle" ∧ owner ≠ "java/lang/invoke/VarHandle") (w5 : (Jvm.Cond.selects C x y).before a0 Z = true) (w6 : (Jvm.Cond.instanceMethod y).before a0 Z = true) (w3 : (Jvm.Cond.initialized y.cls).before a0 Z = true) (w4 : (Jvm.Cond.code y bytes maxL rt).before a0 Z = true)
    {a : Addr} (E : Exa Z h a C) (hM : own_Met l Z y bytes maxL rt [] rm as' h Q) (W : Nat) (hf : rm.frames + 1 ≤ R.frames) (hl : W + (maxL + 11) + rm.locals ≤ R.locals) (eT : T.heap = h) (hc : cells + rm.cells ≤ R.cells) (hs : slots + rm.slots ≤ R.slots)
    {g : JFrame} (hg : g.method = m) (hsize : g.locals.size = c.maxLocals) {argsL rest : List Value} (ha : (Value.ref a :: argsL).toArray = as') (hlen : ∀ sig, parseMethodDescriptor x.desc = some sig → argsL.length = sig.parameters.length) (hstack : g.stack = argsL.reverse ++ .ref a :: rest) (hW : 2 * g.monitorRoom + (rest.map fun v => v.category).sum ≤ W) (hdg : decode c.code g.pc = .ok (.invokevirtual index, 3))
    (k : ∀ v T' L, Stand p l e R s m args below meth c T' (locs ++ L) (cells + rm.cells) (slots + rm.slots) → Q v T'.heap L → own_End p e below P (T'.setTop { g with pc := g.pc + 3, stack := v.toList ++ rest })) : own_End p e below P (T.setTop g) := by
  obtain ⟨cB, kB, q1, q2, q3⟩ := isOf hZ eT E
  obtain ⟨v, vm₁, ⟨T', L', k', n'⟩, -, X', ⟨L, hQ, h1, h2, h3⟩, st⟩ := X.virtualBackUp hx (x := x) (y := y) hown (mvT hZ w1) (mvT hZ w2) (mvT hZ w7) hy (mvT hZ w5) (mvT hZ w6) (backOf (W := W) hM hZ w4 w3 hf hl) q1 q3 hg hsize (Steps.refl _) hlen hstack hW hdg (fun _ _ => ⟨ha, eT, hc, hs⟩)
  dsimp only [Pt.U, Pt.locs, Pt.cells, Pt.slots] at X' h1 h2 h3 st hQ
  subst h1 h2 h3
  exact own_tr st (k v T' L X' hQ)
theorem own_nst {a : Addr} {C : String} (E : Exa Z h a C) : ∃ c : Cell, h[a]? = some c ∧ c.vm.isStatics = false := by obtain ⟨c, k, h1, -, -, h4, -⟩ := E; exact ⟨c, h1, h4⟩
theorem own_StaKeep {h' : Heap} {C n d : String} {v : Value} {ws : List Addr} (F : Sta Z h C n d v) (K : Keep h h' ws) (q : ∀ w ∈ ws, ∃ c : Cell, h[w]? = some c ∧ c.vm.isStatics = false) : Sta Z h' C n d v := by
  obtain ⟨cf, i, k, f, st, cell, h1, h2, h3, h4, h5, h6, h7⟩ := F
  refine ⟨cf, i, k, f, st, cell, h1, h2, h3, h4, K.2.1 st cell h5 (fun hm => ?_), h6, h7⟩
  obtain ⟨c', e1, e2⟩ := q st hm
  cases h5.symm.trans e1
  rw [h6] at e2; cases e2
theorem own_pop2L (X : Stand p l e R s m args below meth c T locs cells slots) (hx : p.tables.exec = Jvm.exec) {pc : Nat} {Ls : Array Slot} {rest : List Value} {x : Int64} (hd : decode c.code pc = .ok (.pop2, 1)) (k : own_End p e below P (T.setTop (mkF m (pc + 1) Ls rest))) : own_End p e below P (T.setTop (mkF m pc Ls (.long x :: rest))) :=
  own_st (fun _ r => by
    show Steps p.tables e below (T.setTop { method := m, pc := pc, locals := Ls, stack := .long x :: rest, locked := none }) _
    jvm_step X.here [X.here.top, hx, hd, Value.category]
    exact r) k
theorem own_sel {y z : MethodName} (hz : z.cls = y.cls) (hy : y.cls ≠ "java/lang/invoke/MethodHandle" ∧ y.cls ≠ "java/lang/invoke/VarHandle") (w5 : (Jvm.Cond.selects y.cls z z).before args s = true) (wi : (Jvm.Cond.instanceMethod y).before args s = true) (hp : s.PrivateAt y) : (Jvm.Cond.selects y.cls y y).before args s = true := by
  obtain ⟨mk, mm, hn, hm, -, -⟩ := Cond.instanceMethod_spec wi
  obtain ⟨c2, r2, m2, -, -, q3, -, kP, hk, hi⟩ := Cond.selects_spec w5
  have a1 := findClass_of_methodNamed hn
  have a2 := findClass_of_methodNamed q3
  rw [hz] at a2
  have e : m2.cls = mk.cls := Option.some.inj (a2.symm.trans a1)
  rw [e] at hk
  have hs : selectMethod {} s.vm mk.cls mk = .method mk := selectMethod_private hm (hp mk mm hn hm)
  have hf := State.methodFound?_of_named hn hy
  simp [Cond.before, Cond.holds, Cond.value, a1, hf, hn, hs, hk, hi]
theorem own_callP (X : Stand p l e R s m args below meth c T locs cells slots) (hx : p.tables.exec = Jvm.exec) (hZ : Z.Warmed39 s.vm) {own : String} {index : Nat} {y z : MethodName} {bytes : ByteArray} {maxL : Nat} {rt : Option FieldType} {rm : Room} {as' : Array Value} {Q : Option Value → Heap → List Loc → Prop}
    (hown : s.vm.findClass own = some m.cls) (w1 : (Jvm.Cond.methodLink own index y).before a0 Z = true) (w2 : (Jvm.Cond.instanceMethod y).before a0 Z = true) (hz : z.cls = y.cls) (w5 : (Jvm.Cond.selects y.cls z z).before a0 Z = true) (w6 : (Jvm.Cond.privateMethod y).before a0 Z = true) (w3 : (Jvm.Cond.initialized y.cls).before a0 Z = true) (w4 : (Jvm.Cond.code y bytes maxL rt).before a0 Z = true) (hy : y.cls ≠ "java/lang/invoke/MethodHandle" ∧ y.cls ≠ "java/lang/invoke/VarHandle")
    {C : String} {a : Addr} (E : Exa Z h a C) (hM : own_Met l Z y bytes maxL rt [] rm as' h Q) (W : Nat) (hf : rm.frames + 1 ≤ R.frames) (hl : W + (maxL + 11) + rm.locals ≤ R.locals) (eT : T.heap = h) (hc : cells + rm.cells ≤ R.cells) (hs : slots + rm.slots ≤ R.slots)
    {g : JFrame} (hg : g.method = m) (hsize : g.locals.size = c.maxLocals) {argsL rest : List Value} (ha : (Value.ref a :: argsL).toArray = as') (hlen : ∀ sig, parseMethodDescriptor y.desc = some sig → argsL.length = sig.parameters.length) (hstack : g.stack = argsL.reverse ++ .ref a :: rest) (hW : 2 * g.monitorRoom + (rest.map fun v => v.category).sum ≤ W) (hdg : decode c.code g.pc = .ok (.invokevirtual index, 3))
    (k : ∀ v T' L, Stand p l e R s m args below meth c T' (locs ++ L) (cells + rm.cells) (slots + rm.slots) → Q v T'.heap L → own_End p e below P (T'.setTop { g with pc := g.pc + 3, stack := v.toList ++ rest })) : own_End p e below P (T.setTop g) := by
  obtain ⟨cq, q1, q2⟩ := E.cell
  have hp : s.PrivateAt y := Cond.privateMethod_at (mvP hZ w6 (args := args))
  obtain ⟨v, vm₁, ⟨T', L', k', n'⟩, -, X', ⟨L, hQ, h1, h2, h3⟩, st⟩ := X.privateBack hx (y := y) hown (mvT hZ w1) (mvT hZ w2) (own_sel hz hy (mvT hZ w5) (mvT hZ w2) hp) hp (mvT hZ w4) hy (backOf (W := W) hM hZ w4 w3 hf hl) hg hsize (Steps.refl _) (a := a) (by rw [eT]; exact q1) q2 hlen hstack hW hdg (fun _ _ => ⟨ha, eT, hc, hs⟩)
  dsimp only [Pt.U, Pt.locs, Pt.cells, Pt.slots] at X' h1 h2 h3 st hQ
  subst h1 h2 h3
  exact own_tr st (k v T' L X' hQ)
theorem own_tsw (X : Stand p l e R s m args below meth c T locs cells slots) (hx : p.tables.exec = Jvm.exec) {pc len pc' : Nat} {Ls : Array Slot} {rest : List Value} {dflt low high o : Int} {offs : Array Int} {i : Int32} (hd : decode c.code pc = .ok (.tableswitch dflt low high offs, len)) (hin : ¬ (i.toInt < low ∨ i.toInt > high)) (hoff : offs[(i.toInt - low).toNat]? = some o) (ho : 0 ≤ (pc : Int) + o) (hp : ((pc : Int) + o).toNat = pc')
    (k : own_End p e below P (T.setTop (mkF m pc' Ls rest))) : own_End p e below P (T.setTop (mkF m pc Ls (.int i :: rest))) :=
  own_st (fun _ r => XS.tswIn (g := mkF m pc Ls (.int i :: rest)) X.here hx rfl rfl hd rfl hin hoff ho hp r) k
theorem own_lt {x y : Int64} : lcmpW x y < 0 ↔ x < y := by rw [lcW]; exact lc_lt x y
theorem own_gt {x y : Int64} : 0 < lcmpW x y ↔ y < x := by rw [lcW]; exact lc_gt x y
theorem own_eq {x y : Int64} : lcmpW x y = 0 ↔ x = y := by rw [lcW]; exact lc_eq x y
theorem own_eqInt {first : State} {o : Option Outcome} {idx : List Nat} {t : Term} {k : Int32} (q : (Jvm.Cond.eq t (.int k)).value args first o s idx = some true) : t.eval args first o idx s = some (.int k) := by
  obtain ⟨x, y, e1, e2, k1, k2⟩ := cmp_v (Or.inl q)
  rw [Term.int_eval] at e2
  cases e2
  obtain ⟨z, rfl⟩ := k2
  rw [e1, gotT (Cond.eq_ints e1 (Term.int_eval k)) q]
end Own
/-! walks that may load String constants: the end is the wide one -/
def own_OkW (Q : Option Value → Heap → List Loc → Prop) (s : State) (kc ks : Nat) (P : Outcome → State → Prop) : Prop := ∀ v U L, Q v U.heap L → ReturnedEndW s (.returned v) U L kc ks → P (.returned v) U
abbrev own_MetW (l : Launch) (Z : State) (y : MethodName) (bytes : ByteArray) (maxL : Nat) (rt : Option FieldType) (ws : List Jvm.Cond) (rm : Room) (as' : Array Value) (h0 : Heap) (Q : Option Value → Heap → List Loc → Prop) : Prop :=
  MetFree l y (head1 (Jvm.Cond.code y bytes maxL rt :: ws) rm) (fun a U => a = as' ∧ Z.Warmed39 U.vm ∧ U.heap = h0) (fun _ _ _ _ _ => True) (fun _ U o U' => ∃ v L, o = .returned v ∧ Q v U'.heap L ∧ ReturnedEndW U o U' L rm.cells rm.slots)
section OwnW
variable {p : Program} {l : Launch} {e : Env} {R : Room} {s : State} {m : MethodId} {args : Array Value} {below : List Frame} {meth : Method} {c : Code} {T : State} {locs : List Loc} {cells slots : Nat} {Z : State} {a0 : Array Value} {h : Heap} {P : Outcome → State → Prop} {vm0 : Vm} {k0 : Nat}
theorem own_enterW {y : MethodName} {bytes : ByteArray} {maxL : Nat} {rt : Option FieldType} {ws : List Jvm.Cond} {rm : Room} {as' : Array Value} {h0 : Heap} {Q : Option Value → Heap → List Loc → Prop} (hpl : plainFor y = true)
    (body : ∀ (p : Program) (e : Env) (s : State) (m : MethodId) (below : List Frame) (meth : Method) (c : Code) (s₁ : State) (P : Outcome → State → Prop) (vm0 : Vm) (k0 : Nat), p.tables.exec = Jvm.exec → c.code = bytes → c.maxLocals = maxL → meth.sig.returnType = rt → meth.locks = false → (s.setVm vm0).vm.findClass y.cls = some m.cls → meth.name = y.name → Z.Warmed39 (s.setVm vm0).vm →
      Stand p l e rm (s.setVm vm0) m as' below meth c s₁ [] 0 0 → s₁.heap = h0 → s.Since vm0 k0 → k0 ≤ h0.size → own_OkW Q s rm.cells rm.slots P → own_End p e below P (s₁.setTop (entryFrame m as' maxL))) :
    own_MetW l Z y bytes maxL rt ws rm as' h0 Q := by
  refine MetFree.of_bodySF hpl hisR ?_
  intro p e s m args below meth c s₁ Bd hml0 hP hK
  obtain ⟨rfl, hZ, hh⟩ := hP
  exact body p e s m below meth c s₁ _ s.vm s.heap.size Bd.exec Bd.bytes hml0 Bd.returns Bd.notSynchronized (findClass_of_methodNamed Bd.named) (name_of_methodNamed Bd.named Bd.method).1 hZ (Stand.of_body Bd) (by rw [← hh, Bd.state]; rfl) ((State.WarmedH.refl s).since _) (by rw [hh]; exact Nat.le_refl _) (fun v U L q f => ⟨v, L, rfl, q, f⟩)
theorem own_monoW {U : State} {o : Outcome} {L : List Loc} {k n k' n' : Nat} (q : ReturnedEndW s o U L k n) (h1 : k ≤ k') (h2 : n ≤ n') : ReturnedEndW s o U L k' n' := ⟨q.1, q.2.1, q.2.2.1, q.2.2.2.mono h1 h2⟩
theorem own_retVW (X : Stand p l e R (s.setVm vm0) m args below meth c T locs cells slots) (hS : s.Since vm0 k0) (hk : k0 ≤ h.size) (eT : T.heap = h) (hx : p.tables.exec = Jvm.exec) (hlk : meth.locks = false) {kc ks : Nat} {Q : Option Value → Heap → List Loc → Prop} (hP : own_OkW Q s kc ks P)
    {pc : Nat} {Ls : Array Slot} (hret : meth.sig.returnType = none) (hd : decode c.code pc = .ok (.return_, 1)) (h1 : cells ≤ kc) (h2 : slots ≤ ks) (hq : Q none T.heap locs) : own_End p e below P (T.setTop (mkF m pc Ls [])) := by
  obtain ⟨fs, hr, hrun, hended, hW⟩ := X.leaveW hS (by rw [eT]; exact hk) (v := none) (fun _ => rfl) hlk
  exact ⟨_, _, X.returnOut hx hret hd hr, hrun, hended, hP _ _ locs hq (own_monoW hW h1 h2)⟩
theorem own_retNW (X : Stand p l e R (s.setVm vm0) m args below meth c T locs cells slots) (hS : s.Since vm0 k0) (hk : k0 ≤ h.size) (eT : T.heap = h) (hx : p.tables.exec = Jvm.exec) (hlk : meth.locks = false) {kc ks : Nat} {Q : Option Value → Heap → List Loc → Prop} (hP : own_OkW Q s kc ks P)
    {pc : Nat} {Ls : Array Slot} {z : Int32} {t : FieldType} {rest : List Value} (ht : t = .boolean ∨ t = .byte ∨ t = .char ∨ t = .short) (hret : meth.sig.returnType = some t) (hd : decode c.code pc = .ok (.ireturn, 1)) (h1 : cells ≤ kc) (h2 : slots ≤ ks) (hq : Q (some (.int (nar t z))) T.heap locs) : own_End p e below P (T.setTop (mkF m pc Ls (.int z :: rest))) := by
  obtain ⟨fs, hr, hrun, hended, hW⟩ := X.leaveW hS (by rw [eT]; exact hk) (v := some (.int (nar t z))) (fun h => by rw [hret] at h; cases h) hlk
  exact ⟨_, _, retN X hx hret ht hd hr, hrun, hended, hP _ _ locs hq (own_monoW hW h1 h2)⟩
theorem own_retIW (X : Stand p l e R (s.setVm vm0) m args below meth c T locs cells slots) (hS : s.Since vm0 k0) (hk : k0 ≤ h.size) (eT : T.heap = h) (hx : p.tables.exec = Jvm.exec) (hlk : meth.locks = false) {kc ks : Nat} {Q : Option Value → Heap → List Loc → Prop} (hP : own_OkW Q s kc ks P)
    {pc : Nat} {Ls : Array Slot} {z : Int32} {rest : List Value} (hret : meth.sig.returnType = some .int) (hd : decode c.code pc = .ok (.ireturn, 1)) (h1 : cells ≤ kc) (h2 : slots ≤ ks) (hq : Q (some (.int z)) T.heap locs) : own_End p e below P (T.setTop (mkF m pc Ls (.int z :: rest))) := by
  obtain ⟨fs, hr, hrun, hended, hW⟩ := X.leaveW hS (by rw [eT]; exact hk) (v := some (.int z)) (fun h => by rw [hret] at h; cases h) hlk
  exact ⟨_, _, retI X hx hret hd hr, hrun, hended, hP _ _ locs hq (own_monoW hW h1 h2)⟩
theorem own_retRW (X : Stand p l e R (s.setVm vm0) m args below meth c T locs cells slots) (hS : s.Since vm0 k0) (hk : k0 ≤ h.size) (eT : T.heap = h) (hx : p.tables.exec = Jvm.exec) (hlk : meth.locks = false) {kc ks : Nat} {Q : Option Value → Heap → List Loc → Prop} (hP : own_OkW Q s kc ks P)
    {pc : Nat} {Ls : Array Slot} {w : Value} {t : FieldType} {rest : List Value} (hw : w.isRef = true) (ht : t.isReference = true) (hret : meth.sig.returnType = some t) (hd : decode c.code pc = .ok (.areturn, 1)) (h1 : cells ≤ kc) (h2 : slots ≤ ks) (hq : Q (some w) T.heap locs) : own_End p e below P (T.setTop (mkF m pc Ls (w :: rest))) := by
  obtain ⟨fs, hr, hrun, hended, hW⟩ := X.leaveW hS (by rw [eT]; exact hk) (v := some w) (fun h => by rw [hret] at h; cases h) hlk
  have hn : narrow t w = w := by rcases ref_cases hw with rfl | ⟨a, rfl⟩ <;> cases t <;> rfl
  exact ⟨_, _, retOut X hx hret hn (Or.inr (Or.inr (Or.inr (Or.inr ⟨rfl, ht, hw⟩)))) hd hr, hrun, hended, hP _ _ locs hq (own_monoW hW h1 h2)⟩
theorem own_callIW (X : Stand p l e R (s.setVm vm0) m args below meth c T locs cells slots) (hS : s.Since vm0 k0) (hk : k0 ≤ h.size) (hx : p.tables.exec = Jvm.exec) (hZ : Z.Warmed39 (s.setVm vm0).vm) {own : String} {index : Nat} {y : MethodName} {bytes : ByteArray} {maxL : Nat} {rm : Room} {as' : Array Value} {Q : Option Value → Heap → List Loc → Prop}
    (hy1 : y.name = "<init>") (hown : (s.setVm vm0).vm.findClass own = some m.cls) (w1 : (Jvm.Cond.methodLink own index y).before a0 Z = true) (w2 : (Jvm.Cond.instanceMethod y).before a0 Z = true) (w3 : (Jvm.Cond.initialized y.cls).before a0 Z = true) (w4 : (Jvm.Cond.code y bytes maxL none).before a0 Z = true) (hy : y.cls ≠ "java/lang/invoke/MethodHandle" ∧ y.cls ≠ "java/lang/invoke/VarHandle")
    (hM : own_MetW l Z y bytes maxL none [] rm as' h Q) (W : Nat) (hf : rm.frames + 1 ≤ R.frames) (hl : W + (maxL + 11) + rm.locals ≤ R.locals) (eT : T.heap = h) (hc : cells + rm.cells ≤ R.cells) (hs : slots + rm.slots ≤ R.slots)
    {g : JFrame} (hg : g.method = m) (hsize : g.locals.size = c.maxLocals) {a : Addr} {argsL rest : List Value} (ha : (Value.ref a :: argsL).toArray = as') (hlen : ∀ sig, parseMethodDescriptor y.desc = some sig → argsL.length = sig.parameters.length) (hstack : g.stack = argsL.reverse ++ .ref a :: rest) (hW : 2 * g.monitorRoom + (rest.map fun v => v.category).sum ≤ W) (hdg : decode c.code g.pc = .ok (.invokespecial index, 3))
    (k : ∀ v T' L, Stand p l e R (s.setVm T'.vm) m args below meth c T' (locs ++ L) (cells + rm.cells) (slots + rm.slots) → Q v T'.heap L → s.Since T'.vm T'.heap.size → Z.Warmed39 (s.setVm T'.vm).vm → (s.setVm T'.vm).vm.findClass own = some m.cls → own_End p e below P (T'.setTop { g with pc := g.pc + 3, stack := v.toList ++ rest })) : own_End p e below P (T.setTop g) := by
  obtain ⟨v, vm₁, ⟨T', L', k', n'⟩, -, X', hS', hg', ⟨L, hQ, h1, h2, h3⟩, st⟩ := X.specialBackS hx hy1 hown (mvT hZ w1) (mvT hZ w2) (mvT hZ w4) hy (backOfS (W := W) hM hZ w4 w3 hf hl) hg hsize (Steps.refl _) hlen hstack hW hdg (fun _ _ => ⟨ha, eT, hc, hs⟩)
  dsimp only [Pt.U, Pt.locs, Pt.cells, Pt.slots] at X' h1 h2 h3 st hQ hS' hg'
  subst h1 h2 h3
  obtain ⟨q1, q2, q3, q4⟩ := rebS hS (by rw [← eT] at hk; exact hk) X' hS' hg' hZ hown
  exact own_tr st (k v T' L q1 hQ q2 q3 q4)
theorem own_callSW (X : Stand p l e R (s.setVm vm0) m args below meth c T locs cells slots) (hS : s.Since vm0 k0) (hk : k0 ≤ h.size) (hx : p.tables.exec = Jvm.exec) (hZ : Z.Warmed39 (s.setVm vm0).vm) {own : String} {index : Nat} {y : MethodName} {bytes : ByteArray} {maxL : Nat} {rt : Option FieldType} {rm : Room} {as' : Array Value} {Q : Option Value → Heap → List Loc → Prop}
    (hown : (s.setVm vm0).vm.findClass own = some m.cls) (w1 : (Jvm.Cond.methodLink own index y).before a0 Z = true) (w2 : (Jvm.Cond.static y).before a0 Z = true) (w3 : (Jvm.Cond.initialized y.cls).before a0 Z = true) (w4 : (Jvm.Cond.code y bytes maxL rt).before a0 Z = true) (hy : y.cls ≠ "java/lang/invoke/MethodHandle" ∧ y.cls ≠ "java/lang/invoke/VarHandle")
    (hM : own_MetW l Z y bytes maxL rt [] rm as' h Q) (W : Nat) (hf : rm.frames + 1 ≤ R.frames) (hl : W + (maxL + 11) + rm.locals ≤ R.locals) (eT : T.heap = h) (hc : cells + rm.cells ≤ R.cells) (hs : slots + rm.slots ≤ R.slots)
    {g : JFrame} (hg : g.method = m) (hsize : g.locals.size = c.maxLocals) {argsL rest : List Value} (ha : argsL.toArray = as') (hlen : ∀ sig, parseMethodDescriptor y.desc = some sig → argsL.length = sig.parameters.length) (hstack : g.stack = argsL.reverse ++ rest) (hW : 2 * g.monitorRoom + (rest.map fun v => v.category).sum ≤ W) (hdg : decode c.code g.pc = .ok (.invokestatic index, 3))
    (k : ∀ v T' L, Stand p l e R (s.setVm T'.vm) m args below meth c T' (locs ++ L) (cells + rm.cells) (slots + rm.slots) → Q v T'.heap L → s.Since T'.vm T'.heap.size → Z.Warmed39 (s.setVm T'.vm).vm → (s.setVm T'.vm).vm.findClass own = some m.cls → own_End p e below P (T'.setTop { g with pc := g.pc + 3, stack := v.toList ++ rest })) : own_End p e below P (T.setTop g) := by
  obtain ⟨v, vm₁, ⟨T', L', k', n'⟩, -, X', hS', hg', ⟨L, hQ, h1, h2, h3⟩, st⟩ := callSS X hx hown (mvT hZ w1) (mvT hZ w2) (mvT hZ w3) (mvT hZ w4) hy (backOfS (W := W) hM hZ w4 w3 hf hl) hg hsize hlen hstack hW hdg (fun _ _ => ⟨ha, eT, hc, hs⟩)
  dsimp only [Pt.U, Pt.locs, Pt.cells, Pt.slots] at X' h1 h2 h3 st hQ hS' hg'
  subst h1 h2 h3
  obtain ⟨q1, q2, q3, q4⟩ := rebS hS (by rw [← eT] at hk; exact hk) X' hS' hg' hZ hown
  exact own_tr st (k v T' L q1 hQ q2 q3 q4)
end OwnW
theorem own_wS {Z : State} {a0 : Array Value} (hw : ∀ d ∈ tables_1, d.before a0 Z = true) : ∀ a ∈ Bundle.stringAtoms, a.before a0 Z = true := by
  intro d hd
  simp only [Bundle.stringAtoms, List.mem_cons, List.not_mem_nil, or_false] at hd
  rcases hd with rfl | rfl | rfl | rfl | rfl | rfl | rfl
  · exact (hw _ (List.mem_of_getElem? (i := 6) rfl))
  · exact (hw _ (List.mem_of_getElem? (i := 5) rfl))
  · exact (hw _ (List.mem_of_getElem? (i := 19) rfl))
  · exact (hw _ (List.mem_of_getElem? (i := 20) rfl))
  · exact (hw _ (List.mem_of_getElem? (i := 21) rfl))
  · exact (hw _ (List.mem_of_getElem? (i := 22) rfl))
  · exact (hw _ (List.mem_of_getElem? (i := 23) rfl))
/-! walks that read String constants: the library's invariant CHv rides along -/
def own_OkH (Z : State) (EL : List (String × Nat)) (Q : Option Value → Heap → List Loc → Prop) (s : State) (kc ks : Nat) (P : Outcome → State → Prop) : Prop := ∀ v U L, Q v U.heap L → CHr Z EL s.vm s.heap U.vm U.heap → ReturnedEndW s (.returned v) U L kc ks → P (.returned v) U
abbrev own_MetH (l : Launch) (Z : State) (EL : List (String × Nat)) (y : MethodName) (bytes : ByteArray) (maxL : Nat) (rt : Option FieldType) (ws : List Jvm.Cond) (rm : Room) (as' : Array Value) (h0 : Heap) (Q : Option Value → Heap → List Loc → Prop) : Prop :=
  MetFree l y (head1 (Jvm.Cond.code y bytes maxL rt :: ws) rm) (fun a U => a = as' ∧ Z.Warmed39 U.vm ∧ U.heap = h0 ∧ CHv Z EL U.vm h0) (fun _ _ _ _ _ => True) (fun _ U o U' => ∃ v L, o = .returned v ∧ Q v U'.heap L ∧ CHr Z EL U.vm U.heap U'.vm U'.heap ∧ ReturnedEndW U o U' L rm.cells rm.slots)
section OwnH
variable {p : Program} {l : Launch} {e : Env} {R : Room} {s : State} {m : MethodId} {args : Array Value} {below : List Frame} {meth : Method} {c : Code} {T : State} {locs : List Loc} {cells slots : Nat} {Z : State} {a0 : Array Value} {h : Heap} {P : Outcome → State → Prop} {vm0 : Vm} {k0 : Nat} {EL : List (String × Nat)}
theorem own_enterH {y : MethodName} {bytes : ByteArray} {maxL : Nat} {rt : Option FieldType} {ws : List Jvm.Cond} {rm : Room} {as' : Array Value} {h0 : Heap} {Q : Option Value → Heap → List Loc → Prop} (hpl : plainFor y = true)
    (body : ∀ (p : Program) (e : Env) (s : State) (m : MethodId) (below : List Frame) (meth : Method) (c : Code) (s₁ : State) (P : Outcome → State → Prop) (vm0 : Vm) (k0 : Nat), p.tables.exec = Jvm.exec → c.code = bytes → c.maxLocals = maxL → meth.sig.returnType = rt → meth.locks = false → (s.setVm vm0).vm.findClass y.cls = some m.cls → meth.name = y.name → Z.Warmed39 (s.setVm vm0).vm →
      Stand p l e rm (s.setVm vm0) m as' below meth c s₁ [] 0 0 → s₁.heap = h0 → s.Since vm0 k0 → k0 ≤ h0.size → CHr Z EL s.vm s.heap vm0 h0 → own_OkH Z EL Q s rm.cells rm.slots P → own_End p e below P (s₁.setTop (entryFrame m as' maxL))) :
    own_MetH l Z EL y bytes maxL rt ws rm as' h0 Q := by
  refine MetFree.of_bodySF hpl hisR ?_
  intro p e s m args below meth c s₁ Bd hml0 hP hK
  obtain ⟨rfl, hZ, hh, hC⟩ := hP
  exact body p e s m below meth c s₁ _ s.vm s.heap.size Bd.exec Bd.bytes hml0 Bd.returns Bd.notSynchronized (findClass_of_methodNamed Bd.named) (name_of_methodNamed Bd.named Bd.method).1 hZ (Stand.of_body Bd) (by rw [← hh, Bd.state]; rfl) ((State.WarmedH.refl s).since _) (by rw [hh]; exact Nat.le_refl _) (by subst hh; exact CHr.refl hC) (fun v U L q r f => ⟨v, L, rfl, q, r, f⟩)
theorem own_retNH (X : Stand p l e R (s.setVm vm0) m args below meth c T locs cells slots) (hS : s.Since vm0 k0) (hk : k0 ≤ h.size) (eT : T.heap = h) (hZ : Z.Warmed39 (s.setVm vm0).vm) (hEL : EW Z a0 EL) (hC : CHr Z EL s.vm s.heap vm0 h) (hx : p.tables.exec = Jvm.exec) (hlk : meth.locks = false) {kc ks : Nat} {Q : Option Value → Heap → List Loc → Prop} (hP : own_OkH Z EL Q s kc ks P)
    {pc : Nat} {Ls : Array Slot} {z : Int32} {t : FieldType} {rest : List Value} (ht : t = .boolean ∨ t = .byte ∨ t = .char ∨ t = .short) (hret : meth.sig.returnType = some t) (hd : decode c.code pc = .ok (.ireturn, 1)) (h1 : cells ≤ kc) (h2 : slots ≤ ks) (hq : Q (some (.int (nar t z))) T.heap locs) : own_End p e below P (T.setTop (mkF m pc Ls (.int z :: rest))) := by
  obtain ⟨fs, hr, hrun, hended, hW⟩ := X.leaveW hS (by rw [eT]; exact hk) (v := some (.int (nar t z))) (fun h => by rw [hret] at h; cases h) hlk
  have q : CHr Z EL s.vm s.heap T.vm T.heap := by rw [eT]; exact hC.trans (CHv.at X hZ hEL hC.1)
  exact ⟨_, _, retN X hx hret ht hd hr, hrun, hended, hP _ _ locs hq q (own_monoW hW h1 h2)⟩
theorem own_retRH (X : Stand p l e R (s.setVm vm0) m args below meth c T locs cells slots) (hS : s.Since vm0 k0) (hk : k0 ≤ h.size) (eT : T.heap = h) (hZ : Z.Warmed39 (s.setVm vm0).vm) (hEL : EW Z a0 EL) (hC : CHr Z EL s.vm s.heap vm0 h) (hx : p.tables.exec = Jvm.exec) (hlk : meth.locks = false) {kc ks : Nat} {Q : Option Value → Heap → List Loc → Prop} (hP : own_OkH Z EL Q s kc ks P)
    {pc : Nat} {Ls : Array Slot} {w : Value} {t : FieldType} {rest : List Value} (hw : w.isRef = true) (ht : t.isReference = true) (hret : meth.sig.returnType = some t) (hd : decode c.code pc = .ok (.areturn, 1)) (h1 : cells ≤ kc) (h2 : slots ≤ ks) (hq : Q (some w) T.heap locs) : own_End p e below P (T.setTop (mkF m pc Ls (w :: rest))) := by
  obtain ⟨fs, hr, hrun, hended, hW⟩ := X.leaveW hS (by rw [eT]; exact hk) (v := some w) (fun h => by rw [hret] at h; cases h) hlk
  have hn : narrow t w = w := by rcases ref_cases hw with rfl | ⟨a, rfl⟩ <;> cases t <;> rfl
  have q : CHr Z EL s.vm s.heap T.vm T.heap := by rw [eT]; exact hC.trans (CHv.at X hZ hEL hC.1)
  exact ⟨_, _, retOut X hx hret hn (Or.inr (Or.inr (Or.inr (Or.inr ⟨rfl, ht, hw⟩)))) hd hr, hrun, hended, hP _ _ locs hq q (own_monoW hW h1 h2)⟩
theorem own_callSH (X : Stand p l e R (s.setVm vm0) m args below meth c T locs cells slots) (hS : s.Since vm0 k0) (hk : k0 ≤ h.size) (hEL : EW Z a0 EL) (hC : CHr Z EL s.vm s.heap vm0 h) (hx : p.tables.exec = Jvm.exec) (hZ : Z.Warmed39 (s.setVm vm0).vm) {own : String} {index : Nat} {y : MethodName} {bytes : ByteArray} {maxL : Nat} {rt : Option FieldType} {rm : Room} {as' : Array Value} {Q : Option Value → Heap → List Loc → Prop}
    (hown : (s.setVm vm0).vm.findClass own = some m.cls) (w1 : (Jvm.Cond.methodLink own index y).before a0 Z = true) (w2 : (Jvm.Cond.static y).before a0 Z = true) (w3 : (Jvm.Cond.initialized y.cls).before a0 Z = true) (w4 : (Jvm.Cond.code y bytes maxL rt).before a0 Z = true) (hy : y.cls ≠ "java/lang/invoke/MethodHandle" ∧ y.cls ≠ "java/lang/invoke/VarHandle")
    (hM : own_MetH l Z EL y bytes maxL rt [] rm as' h Q) (W : Nat) (hf : rm.frames + 1 ≤ R.frames) (hl : W + (maxL + 11) + rm.locals ≤ R.locals) (eT : T.heap = h) (hc : cells + rm.cells ≤ R.cells) (hs : slots + rm.slots ≤ R.slots)
    {g : JFrame} (hg : g.method = m) (hsize : g.locals.size = c.maxLocals) {argsL rest : List Value} (ha : argsL.toArray = as') (hlen : ∀ sig, parseMethodDescriptor y.desc = some sig → argsL.length = sig.parameters.length) (hstack : g.stack = argsL.reverse ++ rest) (hW : 2 * g.monitorRoom + (rest.map fun v => v.category).sum ≤ W) (hdg : decode c.code g.pc = .ok (.invokestatic index, 3))
    (k : ∀ v T' L, Stand p l e R (s.setVm T'.vm) m args below meth c T' (locs ++ L) (cells + rm.cells) (slots + rm.slots) → Q v T'.heap L → s.Since T'.vm T'.heap.size → Z.Warmed39 (s.setVm T'.vm).vm → (s.setVm T'.vm).vm.findClass own = some m.cls → CHr Z EL s.vm s.heap T'.vm T'.heap → own_End p e below P (T'.setTop { g with pc := g.pc + 3, stack := v.toList ++ rest })) : own_End p e below P (T.setTop g) := by
  obtain ⟨v, vm₁, ⟨T', L', k', n'⟩, -, X', hS', hg', ⟨L, hQ, h1, h2, h3, h4⟩, st⟩ := callSS X hx hown (mvT hZ w1) (mvT hZ w2) (mvT hZ w3) (mvT hZ w4) hy (backOfSH (W := W) hM hZ w4 w3 hf hl hEL hC.1) hg hsize hlen hstack hW hdg (fun _ _ => ⟨ha, eT, hc, hs⟩)
  dsimp only [Pt.U, Pt.locs, Pt.cells, Pt.slots] at X' h1 h2 h3 h4 st hQ hS' hg'
  subst h1 h2 h3
  obtain ⟨q1, q2, q3, q4⟩ := rebS hS (by rw [← eT] at hk; exact hk) X' hS' hg' hZ hown
  exact own_tr st (k v T' L q1 hQ q2 q3 q4 (hC.trans h4))
theorem own_alenV (X : Stand p l e R s m args below meth c T locs cells slots) (hx : p.tables.exec = Jvm.exec) (hZ : Z.Warmed39 s.vm) (eT : T.heap = h) {a : Addr} {k : ClassId} {ty : FieldType} {z : Int32} {vs : List Value} {dv : Value} (F : Arv Z h a k ty z vs dv) {g : JFrame} (hg : g.method = m) {rest : List Value} (hs : g.stack = .ref a :: rest) (hd : decode c.code g.pc = .ok (.arraylength, 1))
    (r : own_End p e below P (T.setTop { g with pc := g.pc + 1, stack := .int z :: rest })) : own_End p e below P (T.setTop g) := by
  obtain ⟨cl, Ar, q1, S, N, H, G⟩ := F
  refine own_st (fun _ => X.arraylength hx (by rw [eT]; exact Ar.1) (State.isArrayOf_alike hZ.alike Ar.2.1) hg hs hd _) ?_
  rw [len_of S N]; exact r
theorem own_baloadV (X : Stand p l e R s m args below meth c T locs cells slots) (hx : p.tables.exec = Jvm.exec) (hZ : Z.Warmed39 s.vm) (eT : T.heap = h) {a : Addr} {k : ClassId} {z : Int32} {vs : List Value} {dv : Value} (F : Arv Z h a k .byte z vs dv) {j v : Int32} (hj : ¬ j < 0) (hi : j.toNatClampNeg < z.toNatClampNeg) (hv : vs.getD j.toNatClampNeg dv = .int v) {g : JFrame} (hg : g.method = m) {rest : List Value} (hs : g.stack = .int j :: .ref a :: rest) (hd : decode c.code g.pc = .ok (.baload, 1))
    (r : own_End p e below P (T.setTop { g with pc := g.pc + 1, stack := .int v :: rest })) : own_End p e below P (T.setTop g) := by
  obtain ⟨cl, Ar, q1, S, N, H, G⟩ := F
  have hin : ¬ (j < 0 ∨ cl.slots.size ≤ j.toNatClampNeg) := fun q => q.elim hj (fun y => by rw [S] at y; omega)
  refine own_st (fun _ => X.baloadBytes hx (by rw [eT]; exact Ar.1) (State.isArrayOf_alike hZ.alike Ar.2.1) Ar.2.2 hin (H.at hin (v := .int v) hv) hg hs hd _) ?_
  exact r
end OwnH
theorem own_EW {Z : State} {a0 : Array Value} (hw : ∀ d ∈ tables_1, d.before a0 Z = true) : EW Z a0 consts_1 := (EW.cons (hw _ (List.mem_of_getElem? (i := 18) rfl)) (by decide) EW.nil)
/-- an int[] at a that holds xs -/
def own_IA (Z : State) (h : Heap) (a : Addr) (xs : List Int32) : Prop :=
  ∃ k z, Arv Z h a k .int z (xs.map Value.int) (.int 0) ∧ z.toNatClampNeg = xs.length ∧ Exa Z h a "[I"
section OwnA
variable {p : Program} {l : Launch} {e : Env} {R : Room} {s : State} {m : MethodId} {args : Array Value} {below : List Frame} {meth : Method} {c : Code} {T : State} {locs : List Loc} {cells slots : Nat} {Z : State} {a0 : Array Value} {h h' : Heap} {P : Outcome → State → Prop} {a b : Addr} {xs ys : List Int32}
theorem own_IA.lt (F : own_IA Z h a xs) : a < h.size := by obtain ⟨k, z, A, -⟩ := F; exact A.lt
theorem own_IA.ext (F : own_IA Z h a xs) (E : Ext h h') : own_IA Z h' a xs := by obtain ⟨k, z, A, q, X⟩ := F; exact ⟨k, z, A.ext E, q, X.ext E⟩
theorem own_IA.other {sl : Nat} {v : Value} (F : own_IA Z h a xs) (W : Wr h h' b sl v) (ne : a ≠ b) : own_IA Z h' a xs := by obtain ⟨k, z, A, q, X⟩ := F; exact ⟨k, z, A.other W ne, q, X.wr W⟩
theorem own_IA.keep {ws : List Addr} (F : own_IA Z h a xs) (K : Keep h h' ws) (q : a ∉ ws) : own_IA Z h' a xs := by obtain ⟨k, z, A, r, X⟩ := F; exact ⟨k, z, A.keep K q, r, X.keep K⟩
theorem own_IA.len (F : own_IA Z h a xs) : xs.length < 2 ^ 31 := by obtain ⟨k, z, ⟨cl, -, -, -, q, -⟩, r, -⟩ := F; rw [← r]; exact (back32 q).2
theorem own_IA.ins (F : own_IA Z h a xs) : Ins Z h a "[I" true := by obtain ⟨k, z, A, r, X⟩ := F; exact Ins.self X
theorem own_nat {j : Int32} {i : Nat} (hj : j.toInt = (i : Int)) : ¬ j < 0 ∧ j.toNatClampNeg = i := by
  refine ⟨fun q => by rw [Int32.lt_iff_toInt_lt] at q; rw [hj] at q; have : (0 : Int32).toInt = 0 := by decide
                      omega, ?_⟩
  show j.toInt.toNat = i
  rw [hj]; rfl
theorem own_alen (X : Stand p l e R s m args below meth c T locs cells slots) (hx : p.tables.exec = Jvm.exec) (hZ : Z.Warmed39 s.vm) (eT : T.heap = h) (F : own_IA Z h a xs) {g : JFrame} (hg : g.method = m) {rest : List Value} (hs : g.stack = .ref a :: rest) (hd : decode c.code g.pc = .ok (.arraylength, 1))
    (k : own_End p e below P (T.setTop { g with pc := g.pc + 1, stack := .int (Int32.ofNat xs.length) :: rest })) : own_End p e below P (T.setTop g) := by
  obtain ⟨k', z, ⟨cl, Ar, q1, S, N, H, G⟩, r, -⟩ := F
  refine own_st (fun _ => X.arraylength hx (by rw [eT]; exact Ar.1) (State.isArrayOf_alike hZ.alike Ar.2.1) hg hs hd _) ?_
  rw [S, r]; exact k
theorem own_iaload (X : Stand p l e R s m args below meth c T locs cells slots) (hx : p.tables.exec = Jvm.exec) (hZ : Z.Warmed39 s.vm) (eT : T.heap = h) (F : own_IA Z h a xs) {j v : Int32} {i : Nat} (hj : j.toInt = (i : Int)) (hv : xs[i]? = some v) {g : JFrame} (hg : g.method = m) {rest : List Value} (hs : g.stack = .int j :: .ref a :: rest) (hd : decode c.code g.pc = .ok (.iaload, 1))
    (k : own_End p e below P (T.setTop { g with pc := g.pc + 1, stack := .int v :: rest })) : own_End p e below P (T.setTop g) := by
  obtain ⟨k', z, ⟨cl, Ar, q1, S, N, H, G⟩, r, -⟩ := F
  obtain ⟨hn, hi⟩ := own_nat hj
  have hl : i < xs.length := (List.getElem?_eq_some_iff.mp hv).1
  have hin : ¬ (j < 0 ∨ cl.slots.size ≤ j.toNatClampNeg) := fun q => q.elim hn (fun y => by rw [S, r, hi] at y; omega)
  refine own_st (fun _ => X.iaload hx (by rw [eT]; exact Ar.1) (State.isArrayOf_alike hZ.alike Ar.2.1) Ar.2.2 hin (H.at hin (v := .int v) (by rw [hi]; simp [hv])) hg hs hd _) ?_
  exact k
theorem own_iastore (X : Stand p l e R s m args below meth c T locs cells slots) (hx : p.tables.exec = Jvm.exec) (hZ : Z.Warmed39 s.vm) (eT : T.heap = h) (F : own_IA Z h a xs) {j v : Int32} {i : Nat} (hj : j.toInt = (i : Int)) (hl : i < xs.length) {g : JFrame} (hg : g.method = m) {rest : List Value} (hs : g.stack = .int v :: .int j :: .ref a :: rest) (hd : decode c.code g.pc = .ok (.iastore, 1))
    (k : ∀ T' h', Stand p l e R s m args below meth c T' (locs ++ [⟨a, j.toNatClampNeg⟩]) cells slots → T'.heap = h' → Wr h h' a j.toNatClampNeg (.int v) → own_IA Z h' a (xs.set i v) → own_End p e below P (T'.setTop { g with pc := g.pc + 1, stack := rest })) : own_End p e below P (T.setTop g) := by
  obtain ⟨k', z, ⟨cl, Ar, q1, S, N, H, G⟩, r, E⟩ := F
  obtain ⟨hn, hi⟩ := own_nat hj
  have hin : ¬ (j < 0 ∨ cl.slots.size ≤ j.toNatClampNeg) := fun q => q.elim hn (fun y => by rw [S, r, hi] at y; omega)
  obtain ⟨T', h', X', e', W, st⟩ := stI X hx hZ eT Ar (j := j) hin hg hs hd
  refine own_st st (k T' h' X' e' W ⟨k', z, ?_, by rw [List.length_set]; exact r, E.wr W⟩)
  have := Arv.set Ar q1 S N H G rfl W i hi (by rw [List.length_map]; exact hl)
  rwa [← List.map_set] at this
theorem own_newI (X : Stand p l e R s m args below meth c T locs cells slots) (hx : p.tables.exec = Jvm.exec) (hZ : Z.Warmed39 s.vm) (w : (Jvm.Cond.arrayClass .int).before a0 Z = true) (eT : T.heap = h) {j : Int32} {n : Nat} (hj : j.toInt = (n : Int)) (cap : Nat) (hcap : n ≤ cap) (hb : cap * 8 ≤ 536870912) (hc : cells + 1 ≤ R.cells) (hl : slots + cap ≤ R.slots) {g : JFrame} (hg : g.method = m) {rest : List Value} (hs : g.stack = .int j :: rest) (hd : decode c.code g.pc = .ok (.newarray .int, 2))
    (k : ∀ T' h', Stand p l e R s m args below meth c T' locs (cells + 1) (slots + cap) → T'.heap = h' → Ext h h' → own_IA Z h' h.size (List.replicate n 0) → own_End p e below P (T'.setTop { g with pc := g.pc + 2, stack := .ref h.size :: rest })) : own_End p e below P (T.setTop g) := by
  obtain ⟨hn, hi⟩ := own_nat hj
  obtain ⟨T', h', cA, X', e', E, A, Ex, st⟩ := newPE X hx hZ (aty := .int) w eT hg hd hs hn (cap := cap) (by rw [hi]; exact hcap) hb hc hl (ad := "[I") (by decide)
  refine own_st st (k T' h' X' e' E ⟨cA, j, ?_, by rw [hi, List.length_replicate], Ex⟩)
  have := (Arv.new A hn).pad (vs' := (List.replicate n (0 : Int32)).map Value.int) (fun i => by simp [List.getD_eq_getElem?_getD, List.getElem?_replicate, newarray.typeOf, defaultValue]; split <;> rfl)
  exact this
theorem own_range (xs : List Int32) (sp n : Nat) (h4 : sp + n ≤ xs.length) : (List.range n).map (fun i => (xs.map Value.int).getD (sp + i) (.int 0)) = ((xs.drop sp).take n).map Value.int := by
  apply List.ext_getElem?
  intro i
  by_cases hi : i < n
  · have h5 : sp + i < xs.length := by omega
    simp [List.getElem?_map, List.getElem?_range hi, List.getElem?_take, hi, List.getElem?_drop, List.getD_eq_getElem?_getD, List.getElem?_eq_getElem h5]
  · rw [List.getElem?_eq_none (by simp; omega), List.getElem?_eq_none (by simp; omega)]
theorem own_copy (X : Stand p l e R s m args below meth c T locs cells slots) (hx : p.tables.exec = Jvm.exec) (hZ : Z.Warmed39 s.vm) {own : String} {index : Nat} (hown : s.vm.findClass own = some m.cls)
    (w1 : (Jvm.Cond.methodLink own index Jvm.Stand.acN).before a0 Z = true) (w2 : (Jvm.Cond.native Jvm.Stand.acN).before a0 Z = true) (w3 : (Jvm.Cond.static Jvm.Stand.acN).before a0 Z = true) (w4 : (Jvm.Cond.initialized "java/lang/System").before a0 Z = true) (eT : T.heap = h)
    (A : own_IA Z h a xs) (B : own_IA Z h b ys) {sj dj nj : Int32} {sp dp n : Nat} (h1 : sj.toInt = (sp : Int)) (h2 : dj.toInt = (dp : Int)) (h3 : nj.toInt = (n : Int)) (h4 : sp + n ≤ xs.length) (h5 : dp + n ≤ ys.length) {n0 : Nat} (N : Fr n0 locs) (ge : n0 ≤ b)
    {g : JFrame} (hg : g.method = m) (hsize : g.locals.size = c.maxLocals) {rest : List Value} (hs : g.stack = .int nj :: .int dj :: .ref b :: .int sj :: .ref a :: rest) (hd : decode c.code g.pc = .ok (.invokestatic index, 3))
    (hf : 1 ≤ R.frames) (W : Nat) (hW : 2 * g.monitorRoom + (rest.map fun v => v.category).sum ≤ W) (hlo : W + (nativeFrameWords "java/lang/System" "arraycopy" 5 + 11) ≤ R.locals)
    (k : ∀ T' h' L, Stand p l e R s m args below meth c T' L cells slots → T'.heap = h' → Fr n0 L → Keep h h' [b] → own_IA Z h' b (ys.take dp ++ (xs.drop sp).take n ++ ys.drop (dp + n)) → own_End p e below P (T'.setTop { g with pc := g.pc + 3, stack := rest })) : own_End p e below P (T.setTop g) := by
  obtain ⟨ka, za, Aa, ra, Ea⟩ := A
  obtain ⟨kb, zb, Ab, rb, Eb⟩ := B
  obtain ⟨n1, e1⟩ := own_nat h1
  obtain ⟨n2, e2⟩ := own_nat h2
  obtain ⟨n3, e3⟩ := own_nat h3
  obtain ⟨T', h', L, X', e', N', K, F, st⟩ := cpA X hx hZ hown w1 w2 w3 w4 eT Aa Ab (Or.inl ⟨rfl, rfl⟩) n1 n2 n3 (by rw [e1, e3, ra]; exact h4) (by rw [e2, e3, rb]; exact h5) (us := ((xs.drop sp).take n).map Value.int) (by rw [e3, e1]; exact (own_range xs sp n h4).symm) (by rw [e2, e3, List.length_map]; exact h5) N ge hg hsize hs hd hf hW hlo
  refine own_st st (k T' h' L X' e' N' K ⟨kb, zb, ?_, ?_, Eb.keep K⟩)
  · rw [e2, e3, ← List.map_take, ← List.map_drop, ← List.map_append, ← List.map_append] at F
    exact F
  · rw [rb]; simp; omega
theorem own_clone (X : Stand p l e R s m args below meth c T locs cells slots) (hx : p.tables.exec = Jvm.exec) (hZ : Z.Warmed39 s.vm) {own : String} {index : Nat} (hown : s.vm.findClass own = some m.cls)
    (w1 : (Jvm.Cond.methodLink own index ⟨"[I", "clone", "()Ljava/lang/Object;"⟩).before a0 Z = true) (w2 : (Jvm.Cond.sameMethod "[I" "java/lang/Object" "clone" "()Ljava/lang/Object;").before a0 Z = true) (w3 : (Jvm.Cond.native ⟨"java/lang/Object", "clone", "()Ljava/lang/Object;"⟩).before a0 Z = true)
    (w4 : (Jvm.Cond.instanceMethod ⟨"java/lang/Object", "clone", "()Ljava/lang/Object;"⟩).before a0 Z = true) (w5 : (Jvm.Cond.selects "[I" ⟨"[I", "clone", "()Ljava/lang/Object;"⟩ ⟨"java/lang/Object", "clone", "()Ljava/lang/Object;"⟩).before a0 Z = true) (w6 : (Jvm.Cond.castable "[I" "java/lang/Cloneable").before a0 Z = true)
    (eT : T.heap = h) (A : own_IA Z h a xs) {g : JFrame} (hg : g.method = m) (hsize : g.locals.size = c.maxLocals) {rest : List Value} (hst : g.stack = .ref a :: rest) (hd : decode c.code g.pc = .ok (.invokevirtual index, 3))
    (hf : 1 ≤ R.frames) (W cap : Nat) (hW : 2 * g.monitorRoom + (rest.map fun v => v.category).sum ≤ W) (hl : W + 14 ≤ R.locals) (hcap : xs.length ≤ cap) (hc : cells + 1 ≤ R.cells) (hsl : slots + cap ≤ R.slots)
    (k : ∀ T' h', Stand p l e R s m args below meth c T' locs (cells + 1) (slots + cap) → T'.heap = h' → Ext h h' → own_IA Z h' h.size xs → own_End p e below P (T'.setTop { g with pc := g.pc + 3, stack := .ref h.size :: rest })) : own_End p e below P (T.setTop g) := by
  obtain ⟨ka, za, Aa, ra, Ea⟩ := A
  obtain ⟨T', h', X', e', E, F, Ex, st⟩ := cloneH X hx hZ hown w1 w2 w3 w4 w5 w6 eT Aa.arh Ea hg hsize hst hd hf hW hl (cap := cap) (by rw [ra]; exact hcap) hc hsl
  exact own_st st (k T' h' X' e' E ⟨ka, za, F, ra, Ex⟩)
end OwnA
/-- a byte[] at a that holds xs -/
def own_BA (Z : State) (h : Heap) (a : Addr) (xs : List Int32) : Prop :=
  ∃ k z, Arv Z h a k .byte z (xs.map Value.int) (.int 0) ∧ z.toNatClampNeg = xs.length ∧ (xs = [] ∨ Exa Z h a "[B")
section OwnB
variable {p : Program} {l : Launch} {e : Env} {R : Room} {s : State} {m : MethodId} {args : Array Value} {below : List Frame} {meth : Method} {c : Code} {T : State} {locs : List Loc} {cells slots : Nat} {Z : State} {a0 : Array Value} {h h' : Heap} {P : Outcome → State → Prop} {a b : Addr} {xs ys : List Int32}
theorem own_BA.lt (F : own_BA Z h a xs) : a < h.size := by obtain ⟨k, z, A, -⟩ := F; exact A.lt
theorem own_BA.ext (F : own_BA Z h a xs) (E : Ext h h') : own_BA Z h' a xs := by obtain ⟨k, z, A, q, X⟩ := F; exact ⟨k, z, A.ext E, q, X.imp id (·.ext E)⟩
theorem own_BA.other {sl : Nat} {v : Value} (F : own_BA Z h a xs) (W : Wr h h' b sl v) (ne : a ≠ b) : own_BA Z h' a xs := by obtain ⟨k, z, A, q, X⟩ := F; exact ⟨k, z, A.other W ne, q, X.imp id (·.wr W)⟩
theorem own_BA.keep {ws : List Addr} (F : own_BA Z h a xs) (K : Keep h h' ws) (q : a ∉ ws) : own_BA Z h' a xs := by obtain ⟨k, z, A, r, X⟩ := F; exact ⟨k, z, A.keep K q, r, X.imp id (·.keep K)⟩
theorem own_BA.len (F : own_BA Z h a xs) : xs.length < 2 ^ 31 := by obtain ⟨k, z, ⟨cl, -, -, -, q, -⟩, r, -⟩ := F; rw [← r]; exact (back32 q).2
theorem own_BA.ins (F : own_BA Z h a xs) (n : xs ≠ []) : Ins Z h a "[B" true := by obtain ⟨k, z, A, r, X⟩ := F; exact Ins.self (X.resolve_left n)
theorem own_alenB (X : Stand p l e R s m args below meth c T locs cells slots) (hx : p.tables.exec = Jvm.exec) (hZ : Z.Warmed39 s.vm) (eT : T.heap = h) (F : own_BA Z h a xs) {g : JFrame} (hg : g.method = m) {rest : List Value} (hs : g.stack = .ref a :: rest) (hd : decode c.code g.pc = .ok (.arraylength, 1))
    (k : own_End p e below P (T.setTop { g with pc := g.pc + 1, stack := .int (Int32.ofNat xs.length) :: rest })) : own_End p e below P (T.setTop g) := by
  obtain ⟨k', z, ⟨cl, Ar, q1, S, N, H, G⟩, r, -⟩ := F
  refine own_st (fun _ => X.arraylength hx (by rw [eT]; exact Ar.1) (State.isArrayOf_alike hZ.alike Ar.2.1) hg hs hd _) ?_
  rw [S, r]; exact k
theorem own_baload (X : Stand p l e R s m args below meth c T locs cells slots) (hx : p.tables.exec = Jvm.exec) (hZ : Z.Warmed39 s.vm) (eT : T.heap = h) (F : own_BA Z h a xs) {j : Int32} {v : Int32} {i : Nat} (hj : j.toInt = (i : Int)) (hv : xs[i]? = some v) {g : JFrame} (hg : g.method = m) {rest : List Value} (hs : g.stack = .int j :: .ref a :: rest) (hd : decode c.code g.pc = .ok (.baload, 1))
    (k : own_End p e below P (T.setTop { g with pc := g.pc + 1, stack := .int v :: rest })) : own_End p e below P (T.setTop g) := by
  obtain ⟨k', z, ⟨cl, Ar, q1, S, N, H, G⟩, r, -⟩ := F
  obtain ⟨hn, hi⟩ := own_nat hj
  have hl : i < xs.length := (List.getElem?_eq_some_iff.mp hv).1
  have hin : ¬ (j < 0 ∨ cl.slots.size ≤ j.toNatClampNeg) := fun q => q.elim hn (fun y => by rw [S, r, hi] at y; omega)
  refine own_st (fun _ => X.baloadBytes hx (by rw [eT]; exact Ar.1) (State.isArrayOf_alike hZ.alike Ar.2.1) Ar.2.2 hin (H.at hin (v := .int v) (by rw [hi]; simp [hv])) hg hs hd _) ?_
  exact k
theorem own_bastore (X : Stand p l e R s m args below meth c T locs cells slots) (hx : p.tables.exec = Jvm.exec) (hZ : Z.Warmed39 s.vm) (eT : T.heap = h) (F : own_BA Z h a xs) {j : Int32} {v : Int32} {i : Nat} (hj : j.toInt = (i : Int)) (hl : i < xs.length) {g : JFrame} (hg : g.method = m) {rest : List Value} (hs : g.stack = .int v :: .int j :: .ref a :: rest) (hd : decode c.code g.pc = .ok (.bastore, 1))
    (k : ∀ T' h', Stand p l e R s m args below meth c T' (locs ++ [⟨a, j.toNatClampNeg⟩]) cells slots → T'.heap = h' → Wr h h' a j.toNatClampNeg (.int (nar .byte v)) → own_BA Z h' a (xs.set i (nar .byte v)) → own_End p e below P (T'.setTop { g with pc := g.pc + 1, stack := rest })) : own_End p e below P (T.setTop g) := by
  obtain ⟨k', z, ⟨cl, Ar, q1, S, N, H, G⟩, r, E⟩ := F
  obtain ⟨hn, hi⟩ := own_nat hj
  have hin : ¬ (j < 0 ∨ cl.slots.size ≤ j.toNatClampNeg) := fun q => q.elim hn (fun y => by rw [S, r, hi] at y; omega)
  obtain ⟨T', h', X', e', W, st⟩ := stB X hx hZ eT Ar (j := j) hin hg hs hd
  refine own_st st (k T' h' X' e' W ⟨k', z, ?_, by rw [List.length_set]; exact r, E.imp (fun q => by rw [q]; rfl) (·.wr W)⟩)
  have := Arv.set Ar q1 S N H G (fits_nar_byte _) W i hi (by rw [List.length_map]; exact hl)
  rwa [← List.map_set] at this
theorem own_newB (X : Stand p l e R s m args below meth c T locs cells slots) (hx : p.tables.exec = Jvm.exec) (hZ : Z.Warmed39 s.vm) (w : (Jvm.Cond.arrayClass .byte).before a0 Z = true) (eT : T.heap = h) {j : Int32} {n : Nat} (hj : j.toInt = (n : Int)) (cap : Nat) (hcap : n ≤ cap) (hb : cap * 8 ≤ 536870912) (hc : cells + 1 ≤ R.cells) (hl : slots + cap ≤ R.slots) {g : JFrame} (hg : g.method = m) {rest : List Value} (hs : g.stack = .int j :: rest) (hd : decode c.code g.pc = .ok (.newarray .byte, 2))
    (k : ∀ T' h', Stand p l e R s m args below meth c T' locs (cells + 1) (slots + cap) → T'.heap = h' → Ext h h' → own_BA Z h' h.size (List.replicate n 0) → own_End p e below P (T'.setTop { g with pc := g.pc + 2, stack := .ref h.size :: rest })) : own_End p e below P (T.setTop g) := by
  obtain ⟨hn, hi⟩ := own_nat hj
  obtain ⟨T', h', cA, X', e', E, A, Ex, st⟩ := newPE X hx hZ (aty := .byte) w eT hg hd hs hn (cap := cap) (by rw [hi]; exact hcap) hb hc hl (ad := "[B") (by decide)
  refine own_st st (k T' h' X' e' E ⟨cA, j, ?_, by rw [hi, List.length_replicate], Or.inr Ex⟩)
  have := (Arv.new A hn).pad (vs' := (List.replicate n (0 : Int32)).map Value.int) (fun i => by simp [List.getD_eq_getElem?_getD, List.getElem?_replicate, newarray.typeOf, defaultValue]; split <;> rfl)
  exact this
end OwnB
/-- a char[] at a that holds xs -/
def own_CA (Z : State) (h : Heap) (a : Addr) (xs : List Int32) : Prop :=
  ∃ k z, Arv Z h a k .char z (xs.map Value.int) (.int 0) ∧ z.toNatClampNeg = xs.length ∧ Exa Z h a "[C"
section OwnC
variable {p : Program} {l : Launch} {e : Env} {R : Room} {s : State} {m : MethodId} {args : Array Value} {below : List Frame} {meth : Method} {c : Code} {T : State} {locs : List Loc} {cells slots : Nat} {Z : State} {a0 : Array Value} {h h' : Heap} {P : Outcome → State → Prop} {a b : Addr} {xs ys : List Int32}
theorem own_CA.lt (F : own_CA Z h a xs) : a < h.size := by obtain ⟨k, z, A, -⟩ := F; exact A.lt
theorem own_CA.ext (F : own_CA Z h a xs) (E : Ext h h') : own_CA Z h' a xs := by obtain ⟨k, z, A, q, X⟩ := F; exact ⟨k, z, A.ext E, q, X.ext E⟩
theorem own_CA.other {sl : Nat} {v : Value} (F : own_CA Z h a xs) (W : Wr h h' b sl v) (ne : a ≠ b) : own_CA Z h' a xs := by obtain ⟨k, z, A, q, X⟩ := F; exact ⟨k, z, A.other W ne, q, X.wr W⟩
theorem own_CA.keep {ws : List Addr} (F : own_CA Z h a xs) (K : Keep h h' ws) (q : a ∉ ws) : own_CA Z h' a xs := by obtain ⟨k, z, A, r, X⟩ := F; exact ⟨k, z, A.keep K q, r, X.keep K⟩
theorem own_CA.len (F : own_CA Z h a xs) : xs.length < 2 ^ 31 := by obtain ⟨k, z, ⟨cl, -, -, -, q, -⟩, r, -⟩ := F; rw [← r]; exact (back32 q).2
theorem own_CA.ins (F : own_CA Z h a xs) : Ins Z h a "[C" true := by obtain ⟨k, z, A, r, X⟩ := F; exact Ins.self X
theorem own_CA.safe {EL : List (String × Nat)} {vm : Vm} (F : own_CA Z h a xs) (hal : Z.vm.Alike vm) : Safe Z EL vm h a := by obtain ⟨k, z, A, -⟩ := F; exact Safe.arv hal A (by decide)
theorem own_alenC (X : Stand p l e R s m args below meth c T locs cells slots) (hx : p.tables.exec = Jvm.exec) (hZ : Z.Warmed39 s.vm) (eT : T.heap = h) (F : own_CA Z h a xs) {g : JFrame} (hg : g.method = m) {rest : List Value} (hs : g.stack = .ref a :: rest) (hd : decode c.code g.pc = .ok (.arraylength, 1))
    (k : own_End p e below P (T.setTop { g with pc := g.pc + 1, stack := .int (Int32.ofNat xs.length) :: rest })) : own_End p e below P (T.setTop g) := by
  obtain ⟨k', z, ⟨cl, Ar, q1, S, N, H, G⟩, r, -⟩ := F
  refine own_st (fun _ => X.arraylength hx (by rw [eT]; exact Ar.1) (State.isArrayOf_alike hZ.alike Ar.2.1) hg hs hd _) ?_
  rw [S, r]; exact k
theorem own_caload (X : Stand p l e R s m args below meth c T locs cells slots) (hx : p.tables.exec = Jvm.exec) (hZ : Z.Warmed39 s.vm) (eT : T.heap = h) (F : own_CA Z h a xs) {j : Int32} {v : Int32} {i : Nat} (hj : j.toInt = (i : Int)) (hv : xs[i]? = some v) {g : JFrame} (hg : g.method = m) {rest : List Value} (hs : g.stack = .int j :: .ref a :: rest) (hd : decode c.code g.pc = .ok (.caload, 1))
    (k : own_End p e below P (T.setTop { g with pc := g.pc + 1, stack := .int v :: rest })) : own_End p e below P (T.setTop g) := by
  obtain ⟨k', z, ⟨cl, Ar, q1, S, N, H, G⟩, r, -⟩ := F
  obtain ⟨hn, hi⟩ := own_nat hj
  have hl : i < xs.length := (List.getElem?_eq_some_iff.mp hv).1
  have hin : ¬ (j < 0 ∨ cl.slots.size ≤ j.toNatClampNeg) := fun q => q.elim hn (fun y => by rw [S, r, hi] at y; omega)
  refine own_st (fun _ => X.caload hx (by rw [eT]; exact Ar.1) (State.isArrayOf_alike hZ.alike Ar.2.1) Ar.2.2 hin (H.at hin (v := .int v) (by rw [hi]; simp [hv])) hg hs hd _) ?_
  exact k
theorem own_castore (X : Stand p l e R s m args below meth c T locs cells slots) (hx : p.tables.exec = Jvm.exec) (hZ : Z.Warmed39 s.vm) (eT : T.heap = h) (F : own_CA Z h a xs) {j : Int32} {v : Int32} {i : Nat} (hj : j.toInt = (i : Int)) (hl : i < xs.length) {g : JFrame} (hg : g.method = m) {rest : List Value} (hs : g.stack = .int v :: .int j :: .ref a :: rest) (hd : decode c.code g.pc = .ok (.castore, 1))
    (k : ∀ T' h', Stand p l e R s m args below meth c T' (locs ++ [⟨a, j.toNatClampNeg⟩]) cells slots → T'.heap = h' → Wr h h' a j.toNatClampNeg (.int (nar .char v)) → own_CA Z h' a (xs.set i (nar .char v)) → own_End p e below P (T'.setTop { g with pc := g.pc + 1, stack := rest })) : own_End p e below P (T.setTop g) := by
  obtain ⟨k', z, ⟨cl, Ar, q1, S, N, H, G⟩, r, E⟩ := F
  obtain ⟨hn, hi⟩ := own_nat hj
  have hin : ¬ (j < 0 ∨ cl.slots.size ≤ j.toNatClampNeg) := fun q => q.elim hn (fun y => by rw [S, r, hi] at y; omega)
  obtain ⟨T', h', X', e', W, st⟩ := stC X hx hZ eT Ar (j := j) hin hg hs hd
  refine own_st st (k T' h' X' e' W ⟨k', z, ?_, by rw [List.length_set]; exact r, E.wr W⟩)
  have := Arv.set Ar q1 S N H G (fits_nar_char _) W i hi (by rw [List.length_map]; exact hl)
  rwa [← List.map_set] at this
theorem own_newC (X : Stand p l e R s m args below meth c T locs cells slots) (hx : p.tables.exec = Jvm.exec) (hZ : Z.Warmed39 s.vm) (w : (Jvm.Cond.arrayClass .char).before a0 Z = true) (eT : T.heap = h) {j : Int32} {n : Nat} (hj : j.toInt = (n : Int)) (cap : Nat) (hcap : n ≤ cap) (hb : cap * 8 ≤ 536870912) (hc : cells + 1 ≤ R.cells) (hl : slots + cap ≤ R.slots) {g : JFrame} (hg : g.method = m) {rest : List Value} (hs : g.stack = .int j :: rest) (hd : decode c.code g.pc = .ok (.newarray .char, 2))
    (k : ∀ T' h', Stand p l e R s m args below meth c T' locs (cells + 1) (slots + cap) → T'.heap = h' → Ext h h' → own_CA Z h' h.size (List.replicate n 0) → own_End p e below P (T'.setTop { g with pc := g.pc + 2, stack := .ref h.size :: rest })) : own_End p e below P (T.setTop g) := by
  obtain ⟨hn, hi⟩ := own_nat hj
  obtain ⟨T', h', cA, X', e', E, A, Ex, st⟩ := newPE X hx hZ (aty := .char) w eT hg hd hs hn (cap := cap) (by rw [hi]; exact hcap) hb hc hl (ad := "[C") (by decide)
  refine own_st st (k T' h' X' e' E ⟨cA, j, ?_, by rw [hi, List.length_replicate], Ex⟩)
  have := (Arv.new A hn).pad (vs' := (List.replicate n (0 : Int32)).map Value.int) (fun i => by simp [List.getD_eq_getElem?_getD, List.getElem?_replicate, newarray.typeOf, defaultValue]; split <;> rfl)
  exact this
end OwnC
section OwnLS
variable {p : Program} {l : Launch} {e : Env} {R : Room} {s : State} {m : MethodId} {args : Array Value} {below : List Frame} {meth : Method} {c : Code} {T : State} {locs : List Loc} {cells slots : Nat} {Z : State} {a0 : Array Value} {P : Outcome → State → Prop}
theorem own_lswY (X : Stand p l e R s m args below meth c T locs cells slots) (hx : p.tables.exec = Jvm.exec) {pc len pc' : Nat} {Ls : Array Slot} {rest : List Value} {dflt a off : Int} {pairs : Array (Int × Int)} {k : Int32} (hd : decode c.code pc = .ok (.lookupswitch dflt pairs, len)) (hs : (pairs.toList.zip (pairs.toList.drop 1)).all (fun (a, next) => a.1 < next.1) = true) (hf : pairs.find? (·.1 == k.toInt) = some (a, off)) (ho : 0 ≤ (pc : Int) + off) (hp : ((pc : Int) + off).toNat = pc')
    (r : own_End p e below P (T.setTop (mkF m pc' Ls rest))) : own_End p e below P (T.setTop (mkF m pc Ls (.int k :: rest))) := by
  subst hp
  exact own_st (fun tg q => X.lookupswitchHit hx (g := mkF m pc Ls (.int k :: rest)) rfl rfl hd hs hf ho tg q) r
theorem own_lswN (X : Stand p l e R s m args below meth c T locs cells slots) (hx : p.tables.exec = Jvm.exec) {pc len pc' : Nat} {Ls : Array Slot} {rest : List Value} {dflt : Int} {pairs : Array (Int × Int)} {k : Int32} (hd : decode c.code pc = .ok (.lookupswitch dflt pairs, len)) (hs : (pairs.toList.zip (pairs.toList.drop 1)).all (fun (a, next) => a.1 < next.1) = true) (hf : pairs.find? (·.1 == k.toInt) = none) (ho : 0 ≤ (pc : Int) + dflt) (hp : ((pc : Int) + dflt).toNat = pc')
    (r : own_End p e below P (T.setTop (mkF m pc' Ls rest))) : own_End p e below P (T.setTop (mkF m pc Ls (.int k :: rest))) := by
  subst hp
  exact own_st (fun tg q => X.lookupswitchMiss hx (g := mkF m pc Ls (.int k :: rest)) rfl rfl hd hs hf ho tg q) r
/-- a class right under Object isn't of an instantiable class of another name -/
theorem own_notInst {C O K : String} {n : Nat} (w : (Jvm.Cond.superclass C O).before a0 Z = true) (wo : (Jvm.Cond.noSuperclass O).before a0 Z = true) (wk : (Jvm.Cond.instantiable K n).before a0 Z = true) (h1 : O ≠ K) (h2 : C ≠ K) : ∃ c t, Z.vm.findClass C = some c ∧ Z.vm.findClass K = some t ∧ Z.vm.assignable c t = false := by
  obtain ⟨o, ko, o1, o2, o3, -, -⟩ := Cond.noSuperclass_spec wo
  obtain ⟨t, kt, g1, g2, g5, g6, -⟩ := Cond.instantiable_spec wk
  obtain ⟨c', h0⟩ := found_sup w
  obtain ⟨p', k, kp, q1, q2, q3, q4, q5, -, q7⟩ := Cond.superclass_spec h0 w
  cases o1.symm.trans q1
  have n1 := ids_ne o1 g1 h1
  have n2 := ids_ne h0 g1 h2
  have g7 : kt.isInterface = false := by cases h : kt.isInterface <;> simp_all
  have no : ∀ fuel, Z.vm.isSubclassAux fuel o t = false := fun fuel => by
    cases fuel with
    | zero => rfl
    | succ f => simp [Vm.isSubclassAux, n1, o2, o3]
  refine ⟨c', t, h0, g1, ?_⟩
  show Z.vm.assignableAux (255 + 1) c' t = false
  simp [Vm.assignableAux, n2, q2, g2, q5, g5, g7, Vm.isSubclass, Vm.isSubclassAux, q4, no]
end OwnLS
abbrev own_MetX (l : Launch) (Z : State) (EL : List (String × Nat)) (y : MethodName) (bytes : ByteArray) (maxL : Nat) (rt : Option FieldType) (ws : List Jvm.Cond) (rm : Room) (as' : Array Value) (h0 : Heap) (Q : Option Value → Heap → List Loc → Prop) : Prop :=
  MetFree l y (head1 (Jvm.Cond.code y bytes maxL rt :: ws) rm) (fun a U => a = as' ∧ Z.Warmed39 U.vm ∧ U.heap = h0 ∧ CHv Z EL U.vm h0) (fun _ _ _ _ _ => True) (fun _ U o U' => ∃ v L, o = .returned v ∧ Q v U'.heap L ∧ ReturnedEndW U o U' L rm.cells rm.slots)
section OwnSafe
variable {p : Program} {l : Launch} {e : Env} {R : Room} {s : State} {m : MethodId} {args : Array Value} {below : List Frame} {meth : Method} {c : Code} {T : State} {locs : List Loc} {cells slots : Nat} {Z : State} {a0 : Array Value} {h : Heap} {P : Outcome → State → Prop} {vm0 : Vm} {k0 : Nat} {EL : List (String × Nat)}
/-- a String whose 'value' is null is no booked constant's -/
theorem own_safeNull {vm : Vm} {x : Addr} (hal : Z.vm.Alike vm) (E : Exa Z h x "java/lang/String") (F : Fld Z h x "java/lang/String" "value" "[B" .null) : Safe Z EL vm h x := fun B => by
  obtain ⟨p, -, u, a, -, q, -, G, rfl | rfl⟩ := B
  · obtain ⟨cell, c1, k1, i1, f1, e1, e2, -, -, -, -, e7⟩ := F
    cases (show h[q.sa]? = some q.sC from G.ha).symm.trans e1
    obtain ⟨cS, ⟨⟨-, -, -, ⟨cv, kv, iv, s4, -⟩, -, -, -, s8, -⟩, -, -⟩, -⟩ := G
    obtain ⟨kv', z4⟩ := ff_back (U := Wst Z vm h) hal s4
    have z5 := z4.symm.trans e2
    simp only [Option.some.injEq, Prod.mk.injEq] at z5
    rw [z5.2.2.2, e7] at s8
    cases s8
  · obtain ⟨cell, k, e1, e2, e3, -, -⟩ := E
    cases (show h[q.sd]? = some q.SA from G.hd).symm.trans e1
    obtain ⟨cS, -, -, f, -⟩ := G
    have f : vm.findClass "[B" = some q.SA.cls := f
    rw [hal.findClass] at f
    obtain ⟨k1, q1, q2⟩ := Vm.findClass_spec f
    obtain ⟨k2, q3, q4⟩ := Vm.findClass_spec e2
    cases q1.symm.trans q3
    exact absurd (q2.symm.trans q4) (by decide)
theorem own_retVH (X : Stand p l e R (s.setVm vm0) m args below meth c T locs cells slots) (hS : s.Since vm0 k0) (hk : k0 ≤ h.size) (eT : T.heap = h) (hZ : Z.Warmed39 (s.setVm vm0).vm) (hEL : EW Z a0 EL) (hC : CHr Z EL s.vm s.heap vm0 h) (hx : p.tables.exec = Jvm.exec) (hlk : meth.locks = false) {kc ks : Nat} {Q : Option Value → Heap → List Loc → Prop} (hP : own_OkH Z EL Q s kc ks P)
    {pc : Nat} {Ls : Array Slot} (hret : meth.sig.returnType = none) (hd : decode c.code pc = .ok (.return_, 1)) (h1 : cells ≤ kc) (h2 : slots ≤ ks) (hq : Q none T.heap locs) : own_End p e below P (T.setTop (mkF m pc Ls [])) := by
  obtain ⟨fs, hr, hrun, hended, hW⟩ := X.leaveW hS (by rw [eT]; exact hk) (v := none) (fun _ => rfl) hlk
  have q : CHr Z EL s.vm s.heap T.vm T.heap := by rw [eT]; exact hC.trans (CHv.at X hZ hEL hC.1)
  exact ⟨_, _, X.returnOut hx hret hd hr, hrun, hended, hP _ _ locs hq q (own_monoW hW h1 h2)⟩
theorem own_callIH (X : Stand p l e R (s.setVm vm0) m args below meth c T locs cells slots) (hS : s.Since vm0 k0) (hk : k0 ≤ h.size) (hEL : EW Z a0 EL) (hC : CHr Z EL s.vm s.heap vm0 h) (hx : p.tables.exec = Jvm.exec) (hZ : Z.Warmed39 (s.setVm vm0).vm) {own : String} {index : Nat} {y : MethodName} {bytes : ByteArray} {maxL : Nat} {rm : Room} {as' : Array Value} {Q : Option Value → Heap → List Loc → Prop}
    (hy1 : y.name = "<init>") (hown : (s.setVm vm0).vm.findClass own = some m.cls) (w1 : (Jvm.Cond.methodLink own index y).before a0 Z = true) (w2 : (Jvm.Cond.instanceMethod y).before a0 Z = true) (w3 : (Jvm.Cond.initialized y.cls).before a0 Z = true) (w4 : (Jvm.Cond.code y bytes maxL none).before a0 Z = true) (hy : y.cls ≠ "java/lang/invoke/MethodHandle" ∧ y.cls ≠ "java/lang/invoke/VarHandle")
    (hM : own_MetH l Z EL y bytes maxL none [] rm as' h Q) (W : Nat) (hf : rm.frames + 1 ≤ R.frames) (hl : W + (maxL + 11) + rm.locals ≤ R.locals) (eT : T.heap = h) (hc : cells + rm.cells ≤ R.cells) (hs : slots + rm.slots ≤ R.slots)
    {g : JFrame} (hg : g.method = m) (hsize : g.locals.size = c.maxLocals) {a : Addr} {argsL rest : List Value} (ha : (Value.ref a :: argsL).toArray = as') (hlen : ∀ sig, parseMethodDescriptor y.desc = some sig → argsL.length = sig.parameters.length) (hstack : g.stack = argsL.reverse ++ .ref a :: rest) (hW : 2 * g.monitorRoom + (rest.map fun v => v.category).sum ≤ W) (hdg : decode c.code g.pc = .ok (.invokespecial index, 3))
    (k : ∀ v T' L, Stand p l e R (s.setVm T'.vm) m args below meth c T' (locs ++ L) (cells + rm.cells) (slots + rm.slots) → Q v T'.heap L → s.Since T'.vm T'.heap.size → Z.Warmed39 (s.setVm T'.vm).vm → (s.setVm T'.vm).vm.findClass own = some m.cls → CHr Z EL s.vm s.heap T'.vm T'.heap → own_End p e below P (T'.setTop { g with pc := g.pc + 3, stack := v.toList ++ rest })) : own_End p e below P (T.setTop g) := by
  obtain ⟨v, vm₁, ⟨T', L', k', n'⟩, -, X', hS', hg', ⟨L, hQ, h1, h2, h3, h4⟩, st⟩ := X.specialBackS hx hy1 hown (mvT hZ w1) (mvT hZ w2) (mvT hZ w4) hy (backOfSH (W := W) hM hZ w4 w3 hf hl hEL hC.1) hg hsize (Steps.refl _) hlen hstack hW hdg (fun _ _ => ⟨ha, eT, hc, hs⟩)
  dsimp only [Pt.U, Pt.locs, Pt.cells, Pt.slots] at X' h1 h2 h3 h4 st hQ hS' hg'
  subst h1 h2 h3
  obtain ⟨q1, q2, q3, q4⟩ := rebS hS (by rw [← eT] at hk; exact hk) X' hS' hg' hZ hown
  exact own_tr st (k v T' L q1 hQ q2 q3 q4 (hC.trans h4))
theorem own_enterX {y : MethodName} {bytes : ByteArray} {maxL : Nat} {rt : Option FieldType} {ws : List Jvm.Cond} {rm : Room} {as' : Array Value} {h0 : Heap} {Q : Option Value → Heap → List Loc → Prop} (hpl : plainFor y = true)
    (body : ∀ (p : Program) (e : Env) (s : State) (m : MethodId) (below : List Frame) (meth : Method) (c : Code) (s₁ : State) (P : Outcome → State → Prop) (vm0 : Vm) (k0 : Nat), p.tables.exec = Jvm.exec → c.code = bytes → c.maxLocals = maxL → meth.sig.returnType = rt → meth.locks = false → (s.setVm vm0).vm.findClass y.cls = some m.cls → meth.name = y.name → Z.Warmed39 (s.setVm vm0).vm →
      Stand p l e rm (s.setVm vm0) m as' below meth c s₁ [] 0 0 → s₁.heap = h0 → s.Since vm0 k0 → k0 ≤ h0.size → CHr Z EL s.vm s.heap vm0 h0 → own_OkW Q s rm.cells rm.slots P → own_End p e below P (s₁.setTop (entryFrame m as' maxL))) :
    own_MetX l Z EL y bytes maxL rt ws rm as' h0 Q := by
  refine MetFree.of_bodySF hpl hisR ?_
  intro p e s m args below meth c s₁ Bd hml0 hP hK
  obtain ⟨rfl, hZ, hh, hC⟩ := hP
  exact body p e s m below meth c s₁ _ s.vm s.heap.size Bd.exec Bd.bytes hml0 Bd.returns Bd.notSynchronized (findClass_of_methodNamed Bd.named) (name_of_methodNamed Bd.named Bd.method).1 hZ (Stand.of_body Bd) (by rw [← hh, Bd.state]; rfl) ((State.WarmedH.refl s).since _) (by rw [hh]; exact Nat.le_refl _) (by subst hh; exact CHr.refl hC) (fun v U L q f => ⟨v, L, rfl, q, f⟩)
end OwnSafe
theorem own_dsame_0 : decode method_4_code 0 = .ok (.iload_n 0, 1) := by decide +kernel
theorem own_dsame_1 : decode method_4_code 1 = .ok (.iconst 3, 1) := by decide +kernel
theorem own_dsame_2 : decode method_4_code 2 = .ok (.iand, 1) := by decide +kernel
theorem own_dsame_3 : decode method_4_code 3 = .ok (.istore_n 2, 1) := by decide +kernel
theorem own_dsame_4 : decode method_4_code 4 = .ok (.iload_n 2, 1) := by decide +kernel
theorem own_dsame_5 : decode method_4_code 5 = .ok (.iload_n 1, 1) := by decide +kernel
theorem own_dsame_6 : decode method_4_code 6 = .ok (.iconst 3, 1) := by decide +kernel
theorem own_dsame_7 : decode method_4_code 7 = .ok (.iand, 1) := by decide +kernel
theorem own_dsame_8 : decode method_4_code 8 = .ok (.if_icmp .eq 5, 3) := by decide +kernel
theorem own_dsame_13 : decode method_4_code 13 = .ok (.iload_n 2, 1) := by decide +kernel
theorem own_dsame_14 : decode method_4_code 14 = .ok (.iconst 1, 1) := by decide +kernel
theorem own_dsame_15 : decode method_4_code 15 = .ok (.if_icmp .lt 22, 3) := by decide +kernel
theorem own_dsame_37 : decode method_4_code 37 = .ok (.iload_n 2, 1) := by decide +kernel
theorem own_dsame_38 : decode method_4_code 38 = .ok (.iconst 2, 1) := by decide +kernel
theorem own_dsame_39 : decode method_4_code 39 = .ok (.if_icmp .lt 24, 3) := by decide +kernel
theorem own_dsame_63 : decode method_4_code 63 = .ok (.iload_n 2, 1) := by decide +kernel
theorem own_dsame_64 : decode method_4_code 64 = .ok (.iconst 3, 1) := by decide +kernel
theorem own_dsame_65 : decode method_4_code 65 = .ok (.if_icmp .lt 24, 3) := by decide +kernel
theorem own_dsame_89 : decode method_4_code 89 = .ok (.iconst 1, 1) := by decide +kernel
theorem own_dsame_90 : decode method_4_code 90 = .ok (.ireturn, 1) := by decide +kernel
theorem own_dsame_68 : decode method_4_code 68 = .ok (.iload_n 0, 1) := by decide +kernel
theorem own_dsame_69 : decode method_4_code 69 = .ok (.bipush 18, 2) := by decide +kernel
theorem own_dsame_71 : decode method_4_code 71 = .ok (.iushr, 1) := by decide +kernel
theorem own_dsame_72 : decode method_4_code 72 = .ok (.sipush 255, 3) := by decide +kernel
theorem own_dsame_75 : decode method_4_code 75 = .ok (.iand, 1) := by decide +kernel
theorem own_dsame_76 : decode method_4_code 76 = .ok (.iload_n 1, 1) := by decide +kernel
theorem own_dsame_77 : decode method_4_code 77 = .ok (.bipush 18, 2) := by decide +kernel
theorem own_dsame_79 : decode method_4_code 79 = .ok (.iushr, 1) := by decide +kernel
theorem own_dsame_80 : decode method_4_code 80 = .ok (.sipush 255, 3) := by decide +kernel
theorem own_dsame_83 : decode method_4_code 83 = .ok (.iand, 1) := by decide +kernel
theorem own_dsame_84 : decode method_4_code 84 = .ok (.if_icmp .eq 5, 3) := by decide +kernel
theorem own_dsame_87 : decode method_4_code 87 = .ok (.iconst 0, 1) := by decide +kernel
theorem own_dsame_88 : decode method_4_code 88 = .ok (.ireturn, 1) := by decide +kernel
theorem own_dsame_42 : decode method_4_code 42 = .ok (.iload_n 0, 1) := by decide +kernel
theorem own_dsame_43 : decode method_4_code 43 = .ok (.bipush 10, 2) := by decide +kernel
theorem own_dsame_45 : decode method_4_code 45 = .ok (.iushr, 1) := by decide +kernel
theorem own_dsame_46 : decode method_4_code 46 = .ok (.sipush 255, 3) := by decide +kernel
theorem own_dsame_49 : decode method_4_code 49 = .ok (.iand, 1) := by decide +kernel
theorem own_dsame_50 : decode method_4_code 50 = .ok (.iload_n 1, 1) := by decide +kernel
theorem own_dsame_51 : decode method_4_code 51 = .ok (.bipush 10, 2) := by decide +kernel
theorem own_dsame_53 : decode method_4_code 53 = .ok (.iushr, 1) := by decide +kernel
theorem own_dsame_54 : decode method_4_code 54 = .ok (.sipush 255, 3) := by decide +kernel
theorem own_dsame_57 : decode method_4_code 57 = .ok (.iand, 1) := by decide +kernel
theorem own_dsame_58 : decode method_4_code 58 = .ok (.if_icmp .eq 5, 3) := by decide +kernel
theorem own_dsame_61 : decode method_4_code 61 = .ok (.iconst 0, 1) := by decide +kernel
theorem own_dsame_62 : decode method_4_code 62 = .ok (.ireturn, 1) := by decide +kernel
theorem own_dsame_18 : decode method_4_code 18 = .ok (.iload_n 0, 1) := by decide +kernel
theorem own_dsame_19 : decode method_4_code 19 = .ok (.iconst 2, 1) := by decide +kernel
theorem own_dsame_20 : decode method_4_code 20 = .ok (.iushr, 1) := by decide +kernel
theorem own_dsame_21 : decode method_4_code 21 = .ok (.sipush 255, 3) := by decide +kernel
theorem own_dsame_24 : decode method_4_code 24 = .ok (.iand, 1) := by decide +kernel
theorem own_dsame_25 : decode method_4_code 25 = .ok (.iload_n 1, 1) := by decide +kernel
theorem own_dsame_26 : decode method_4_code 26 = .ok (.iconst 2, 1) := by decide +kernel
theorem own_dsame_27 : decode method_4_code 27 = .ok (.iushr, 1) := by decide +kernel
theorem own_dsame_28 : decode method_4_code 28 = .ok (.sipush 255, 3) := by decide +kernel
theorem own_dsame_31 : decode method_4_code 31 = .ok (.iand, 1) := by decide +kernel
theorem own_dsame_32 : decode method_4_code 32 = .ok (.if_icmp .eq 5, 3) := by decide +kernel
theorem own_dsame_35 : decode method_4_code 35 = .ok (.iconst 0, 1) := by decide +kernel
theorem own_dsame_36 : decode method_4_code 36 = .ok (.ireturn, 1) := by decide +kernel
theorem own_dsame_11 : decode method_4_code 11 = .ok (.iconst 0, 1) := by decide +kernel
theorem own_dsame_12 : decode method_4_code 12 = .ok (.ireturn, 1) := by decide +kernel
theorem own_efsame (m : MethodId) (p0 : Int32) (p1 : Int32) : entryFrame m #[(.int p0), (.int p1)] 3 = mkF m 0 #[.val (.int p0), .val (.int p1), .unset] [] := by first | (simp [entryFrame, mkF, argsToLocals, Value.category]; done) | rfl
def own_fsame (p0 : Int32) (p1 : Int32) : Int32 := (if (p0 &&& (3 : Int32)) = (p1 &&& (3 : Int32)) then (if (p0 &&& (3 : Int32)) < (1 : Int32) then (if (p0 &&& (3 : Int32)) < (2 : Int32) then (if (p0 &&& (3 : Int32)) < (3 : Int32) then (1 : Int32) else (if (((p0.toUInt32 >>> ((18 : Int32) &&& 31).toUInt32).toInt32) &&& (255 : Int32)) = (((p1.toUInt32 >>> ((18 : Int32) &&& 31).toUInt32).toInt32) &&& (255 : Int32)) then (1 : Int32) else (0 : Int32))) else (if (((p0.toUInt32 >>> ((10 : Int32) &&& 31).toUInt32).toInt32) &&& (255 : Int32)) = (((p1.toUInt32 >>> ((10 : Int32) &&& 31).toUInt32).toInt32) &&& (255 : Int32)) then (if (p0 &&& (3 : Int32)) < (3 : Int32) then (1 : Int32) else (if (((p0.toUInt32 >>> ((18 : Int32) &&& 31).toUInt32).toInt32) &&& (255 : Int32)) = (((p1.toUInt32 >>> ((18 : Int32) &&& 31).toUInt32).toInt32) &&& (255 : Int32)) then (1 : Int32) else (0 : Int32))) else (0 : Int32))) else (if (((p0.toUInt32 >>> ((2 : Int32) &&& 31).toUInt32).toInt32) &&& (255 : Int32)) = (((p1.toUInt32 >>> ((2 : Int32) &&& 31).toUInt32).toInt32) &&& (255 : Int32)) then (if (p0 &&& (3 : Int32)) < (2 : Int32) then (if (p0 &&& (3 : Int32)) < (3 : Int32) then (1 : Int32) else (if (((p0.toUInt32 >>> ((18 : Int32) &&& 31).toUInt32).toInt32) &&& (255 : Int32)) = (((p1.toUInt32 >>> ((18 : Int32) &&& 31).toUInt32).toInt32) &&& (255 : Int32)) then (1 : Int32) else (0 : Int32))) else (if (((p0.toUInt32 >>> ((10 : Int32) &&& 31).toUInt32).toInt32) &&& (255 : Int32)) = (((p1.toUInt32 >>> ((10 : Int32) &&& 31).toUInt32).toInt32) &&& (255 : Int32)) then (if (p0 &&& (3 : Int32)) < (3 : Int32) then (1 : Int32) else (if (((p0.toUInt32 >>> ((18 : Int32) &&& 31).toUInt32).toInt32) &&& (255 : Int32)) = (((p1.toUInt32 >>> ((18 : Int32) &&& 31).toUInt32).toInt32) &&& (255 : Int32)) then (1 : Int32) else (0 : Int32))) else (0 : Int32))) else (0 : Int32))) else (0 : Int32))
theorem own_pn_com_example_holdfast_holdfast_internal_RouteEqualsPinLaw : plainName "com/example/holdfast/holdfast/internal/RouteEqualsPinLaw" = true := by first | (simp [plainName, overriddenIn]; done) | decide +kernel
set_option maxRecDepth 65536 in
set_option maxHeartbeats 40000000 in
theorem own_msame (l : Launch) (Z : State) (a0 : Array Value) (hw : ∀ d ∈ tables_1, d.before a0 Z = true) (ws : List Jvm.Cond) (p0 : Int32) (p1 : Int32)  (h0 : Heap) (n0 : Nat) (Z0 : n0 ≤ h0.size)  :
    own_Met l Z (⟨"com/example/holdfast/holdfast/internal/RouteEqualsPinLaw", "same", "(II)Z"⟩ : MethodName) method_4_code 3 (some .boolean) ws ({ frames := 0, cells := 0, slots := 0, locals := 0 } : Room) #[(.int p0), (.int p1)] h0 (fun (v : Option Value) (h : Heap) (L : List Loc) => v = some (.int (own_fsame p0 p1)) ∧ Fr n0 L ∧ h = h0) := by
  refine own_enter (plainFor_of_name own_pn_com_example_holdfast_holdfast_internal_RouteEqualsPinLaw) ?_
  intro p e s m below meth c s₁ P hx hby hml hrt hlk hown hnm hZ X0 e0 hP
  have N0 := Fr.nil n0
  have K0 := Keep.refl h0 []
  have hml' : c.maxLocals = 3 := hml
  refine own_cast (own_efsame m p0 p1) ?_
  show own_End p e below P (s₁.setTop (mkF m 0 #[.val (.int p0), .val (.int p1), .unset] []))
  refine own_st (fun _ => XS.iloadN X0.here hx rfl (hb hby own_dsame_0) rfl) ?_
  show own_End p e below P (s₁.setTop (mkF m 1 #[.val (.int p0), .val (.int p1), .unset] [(.int p0)]))
  refine own_st (fun _ => XS.iconst X0.here hx rfl (hb hby own_dsame_1)) ?_
  show own_End p e below P (s₁.setTop (mkF m 2 #[.val (.int p0), .val (.int p1), .unset] [(.int (3 : Int32)), (.int p0)]))
  refine own_st (fun _ => XS.iand X0.here hx rfl (hb hby own_dsame_2) rfl) ?_
  show own_End p e below P (s₁.setTop (mkF m 3 #[.val (.int p0), .val (.int p1), .unset] [(.int (p0 &&& (3 : Int32)))]))
  refine own_st (fun _ => XS.istoreN X0.here hx rfl (hb hby own_dsame_3) rfl (l' := #[.val (.int p0), .val (.int p1), .val (.int (p0 &&& (3 : Int32)))]) rfl) ?_
  show own_End p e below P (s₁.setTop (mkF m 4 #[.val (.int p0), .val (.int p1), .val (.int (p0 &&& (3 : Int32)))] []))
  refine own_st (fun _ => XS.iloadN X0.here hx rfl (hb hby own_dsame_4) rfl) ?_
  show own_End p e below P (s₁.setTop (mkF m 5 #[.val (.int p0), .val (.int p1), .val (.int (p0 &&& (3 : Int32)))] [(.int (p0 &&& (3 : Int32)))]))
  refine own_st (fun _ => XS.iloadN X0.here hx rfl (hb hby own_dsame_5) rfl) ?_
  show own_End p e below P (s₁.setTop (mkF m 6 #[.val (.int p0), .val (.int p1), .val (.int (p0 &&& (3 : Int32)))] [(.int p1), (.int (p0 &&& (3 : Int32)))]))
  refine own_st (fun _ => XS.iconst X0.here hx rfl (hb hby own_dsame_6)) ?_
  show own_End p e below P (s₁.setTop (mkF m 7 #[.val (.int p0), .val (.int p1), .val (.int (p0 &&& (3 : Int32)))] [(.int (3 : Int32)), (.int p1), (.int (p0 &&& (3 : Int32)))]))
  refine own_st (fun _ => XS.iand X0.here hx rfl (hb hby own_dsame_7) rfl) ?_
  show own_End p e below P (s₁.setTop (mkF m 8 #[.val (.int p0), .val (.int p1), .val (.int (p0 &&& (3 : Int32)))] [(.int (p1 &&& (3 : Int32))), (.int (p0 &&& (3 : Int32)))]))
  by_cases hc1 : (p0 &&& (3 : Int32)) = (p1 &&& (3 : Int32))
  · refine own_st (fun _ => XS.icmpYes X0.here hx rfl (pc0 := 8) (pc' := 13) rfl (hb hby own_dsame_8) rfl (teq hc1).1 (by decide) (by decide)) ?_
    show own_End p e below P (s₁.setTop (mkF m 13 #[.val (.int p0), .val (.int p1), .val (.int (p0 &&& (3 : Int32)))] []))
    refine own_st (fun _ => XS.iloadN X0.here hx rfl (hb hby own_dsame_13) rfl) ?_
    show own_End p e below P (s₁.setTop (mkF m 14 #[.val (.int p0), .val (.int p1), .val (.int (p0 &&& (3 : Int32)))] [(.int (p0 &&& (3 : Int32)))]))
    refine own_st (fun _ => XS.iconst X0.here hx rfl (hb hby own_dsame_14)) ?_
    show own_End p e below P (s₁.setTop (mkF m 15 #[.val (.int p0), .val (.int p1), .val (.int (p0 &&& (3 : Int32)))] [(.int (1 : Int32)), (.int (p0 &&& (3 : Int32)))]))
    by_cases hc2 : (p0 &&& (3 : Int32)) < (1 : Int32)
    · refine own_st (fun _ => XS.icmpYes X0.here hx rfl (pc0 := 15) (pc' := 37) rfl (hb hby own_dsame_15) rfl (tlt hc2).1 (by decide) (by decide)) ?_
      show own_End p e below P (s₁.setTop (mkF m 37 #[.val (.int p0), .val (.int p1), .val (.int (p0 &&& (3 : Int32)))] []))
      refine own_st (fun _ => XS.iloadN X0.here hx rfl (hb hby own_dsame_37) rfl) ?_
      show own_End p e below P (s₁.setTop (mkF m 38 #[.val (.int p0), .val (.int p1), .val (.int (p0 &&& (3 : Int32)))] [(.int (p0 &&& (3 : Int32)))]))
      refine own_st (fun _ => XS.iconst X0.here hx rfl (hb hby own_dsame_38)) ?_
      show own_End p e below P (s₁.setTop (mkF m 39 #[.val (.int p0), .val (.int p1), .val (.int (p0 &&& (3 : Int32)))] [(.int (2 : Int32)), (.int (p0 &&& (3 : Int32)))]))
      by_cases hc3 : (p0 &&& (3 : Int32)) < (2 : Int32)
      · refine own_st (fun _ => XS.icmpYes X0.here hx rfl (pc0 := 39) (pc' := 63) rfl (hb hby own_dsame_39) rfl (tlt hc3).1 (by decide) (by decide)) ?_
        show own_End p e below P (s₁.setTop (mkF m 63 #[.val (.int p0), .val (.int p1), .val (.int (p0 &&& (3 : Int32)))] []))
        refine own_st (fun _ => XS.iloadN X0.here hx rfl (hb hby own_dsame_63) rfl) ?_
        show own_End p e below P (s₁.setTop (mkF m 64 #[.val (.int p0), .val (.int p1), .val (.int (p0 &&& (3 : Int32)))] [(.int (p0 &&& (3 : Int32)))]))
        refine own_st (fun _ => XS.iconst X0.here hx rfl (hb hby own_dsame_64)) ?_
        show own_End p e below P (s₁.setTop (mkF m 65 #[.val (.int p0), .val (.int p1), .val (.int (p0 &&& (3 : Int32)))] [(.int (3 : Int32)), (.int (p0 &&& (3 : Int32)))]))
        by_cases hc4 : (p0 &&& (3 : Int32)) < (3 : Int32)
        · refine own_st (fun _ => XS.icmpYes X0.here hx rfl (pc0 := 65) (pc' := 89) rfl (hb hby own_dsame_65) rfl (tlt hc4).1 (by decide) (by decide)) ?_
          show own_End p e below P (s₁.setTop (mkF m 89 #[.val (.int p0), .val (.int p1), .val (.int (p0 &&& (3 : Int32)))] []))
          refine own_st (fun _ => XS.iconst X0.here hx rfl (hb hby own_dsame_89)) ?_
          show own_End p e below P (s₁.setTop (mkF m 90 #[.val (.int p0), .val (.int p1), .val (.int (p0 &&& (3 : Int32)))] [(.int (1 : Int32))]))
          refine own_retN X0 hx hlk hP (t := .boolean) (by simp) hrt (hb hby own_dsame_90) (by decide) (by decide) ⟨congrArg (fun z => some (Value.int z)) ?_, N0, e0⟩
          exact (show own_fsame p0 p1 = (1 : Int32) from (if_pos hc1).trans ((if_pos hc2).trans ((if_pos hc3).trans ((if_pos hc4).trans (rfl))))).symm
        · refine own_st (fun _ => XS.icmpNo X0.here hx rfl (hb hby own_dsame_65) rfl (flt hc4).1) ?_
          show own_End p e below P (s₁.setTop (mkF m 68 #[.val (.int p0), .val (.int p1), .val (.int (p0 &&& (3 : Int32)))] []))
          refine own_st (fun _ => XS.iloadN X0.here hx rfl (hb hby own_dsame_68) rfl) ?_
          show own_End p e below P (s₁.setTop (mkF m 69 #[.val (.int p0), .val (.int p1), .val (.int (p0 &&& (3 : Int32)))] [(.int p0)]))
          refine own_st (fun _ => XS.bipush X0.here hx rfl (hb hby own_dsame_69)) ?_
          show own_End p e below P (s₁.setTop (mkF m 71 #[.val (.int p0), .val (.int p1), .val (.int (p0 &&& (3 : Int32)))] [(.int (18 : Int32)), (.int p0)]))
          refine own_st (fun _ => XS.iushr X0.here hx rfl (hb hby own_dsame_71) rfl) ?_
          show own_End p e below P (s₁.setTop (mkF m 72 #[.val (.int p0), .val (.int p1), .val (.int (p0 &&& (3 : Int32)))] [(.int ((p0.toUInt32 >>> ((18 : Int32) &&& 31).toUInt32).toInt32))]))
          refine own_st (fun _ => XS.sipush X0.here hx rfl (hb hby own_dsame_72)) ?_
          show own_End p e below P (s₁.setTop (mkF m 75 #[.val (.int p0), .val (.int p1), .val (.int (p0 &&& (3 : Int32)))] [(.int (255 : Int32)), (.int ((p0.toUInt32 >>> ((18 : Int32) &&& 31).toUInt32).toInt32))]))
          refine own_st (fun _ => XS.iand X0.here hx rfl (hb hby own_dsame_75) rfl) ?_
          show own_End p e below P (s₁.setTop (mkF m 76 #[.val (.int p0), .val (.int p1), .val (.int (p0 &&& (3 : Int32)))] [(.int (((p0.toUInt32 >>> ((18 : Int32) &&& 31).toUInt32).toInt32) &&& (255 : Int32)))]))
          refine own_st (fun _ => XS.iloadN X0.here hx rfl (hb hby own_dsame_76) rfl) ?_
          show own_End p e below P (s₁.setTop (mkF m 77 #[.val (.int p0), .val (.int p1), .val (.int (p0 &&& (3 : Int32)))] [(.int p1), (.int (((p0.toUInt32 >>> ((18 : Int32) &&& 31).toUInt32).toInt32) &&& (255 : Int32)))]))
          refine own_st (fun _ => XS.bipush X0.here hx rfl (hb hby own_dsame_77)) ?_
          show own_End p e below P (s₁.setTop (mkF m 79 #[.val (.int p0), .val (.int p1), .val (.int (p0 &&& (3 : Int32)))] [(.int (18 : Int32)), (.int p1), (.int (((p0.toUInt32 >>> ((18 : Int32) &&& 31).toUInt32).toInt32) &&& (255 : Int32)))]))
          refine own_st (fun _ => XS.iushr X0.here hx rfl (hb hby own_dsame_79) rfl) ?_
          show own_End p e below P (s₁.setTop (mkF m 80 #[.val (.int p0), .val (.int p1), .val (.int (p0 &&& (3 : Int32)))] [(.int ((p1.toUInt32 >>> ((18 : Int32) &&& 31).toUInt32).toInt32)), (.int (((p0.toUInt32 >>> ((18 : Int32) &&& 31).toUInt32).toInt32) &&& (255 : Int32)))]))
          refine own_st (fun _ => XS.sipush X0.here hx rfl (hb hby own_dsame_80)) ?_
          show own_End p e below P (s₁.setTop (mkF m 83 #[.val (.int p0), .val (.int p1), .val (.int (p0 &&& (3 : Int32)))] [(.int (255 : Int32)), (.int ((p1.toUInt32 >>> ((18 : Int32) &&& 31).toUInt32).toInt32)), (.int (((p0.toUInt32 >>> ((18 : Int32) &&& 31).toUInt32).toInt32) &&& (255 : Int32)))]))
          refine own_st (fun _ => XS.iand X0.here hx rfl (hb hby own_dsame_83) rfl) ?_
          show own_End p e below P (s₁.setTop (mkF m 84 #[.val (.int p0), .val (.int p1), .val (.int (p0 &&& (3 : Int32)))] [(.int (((p1.toUInt32 >>> ((18 : Int32) &&& 31).toUInt32).toInt32) &&& (255 : Int32))), (.int (((p0.toUInt32 >>> ((18 : Int32) &&& 31).toUInt32).toInt32) &&& (255 : Int32)))]))
          by_cases hc5 : (((p0.toUInt32 >>> ((18 : Int32) &&& 31).toUInt32).toInt32) &&& (255 : Int32)) = (((p1.toUInt32 >>> ((18 : Int32) &&& 31).toUInt32).toInt32) &&& (255 : Int32))
          · refine own_st (fun _ => XS.icmpYes X0.here hx rfl (pc0 := 84) (pc' := 89) rfl (hb hby own_dsame_84) rfl (teq hc5).1 (by decide) (by decide)) ?_
            show own_End p e below P (s₁.setTop (mkF m 89 #[.val (.int p0), .val (.int p1), .val (.int (p0 &&& (3 : Int32)))] []))
            refine own_st (fun _ => XS.iconst X0.here hx rfl (hb hby own_dsame_89)) ?_
            show own_End p e below P (s₁.setTop (mkF m 90 #[.val (.int p0), .val (.int p1), .val (.int (p0 &&& (3 : Int32)))] [(.int (1 : Int32))]))
            refine own_retN X0 hx hlk hP (t := .boolean) (by simp) hrt (hb hby own_dsame_90) (by decide) (by decide) ⟨congrArg (fun z => some (Value.int z)) ?_, N0, e0⟩
            exact (show own_fsame p0 p1 = (1 : Int32) from (if_pos hc1).trans ((if_pos hc2).trans ((if_pos hc3).trans ((if_neg hc4).trans ((if_pos hc5).trans (rfl)))))).symm
          · refine own_st (fun _ => XS.icmpNo X0.here hx rfl (hb hby own_dsame_84) rfl (feq hc5).1) ?_
            show own_End p e below P (s₁.setTop (mkF m 87 #[.val (.int p0), .val (.int p1), .val (.int (p0 &&& (3 : Int32)))] []))
            refine own_st (fun _ => XS.iconst X0.here hx rfl (hb hby own_dsame_87)) ?_
            show own_End p e below P (s₁.setTop (mkF m 88 #[.val (.int p0), .val (.int p1), .val (.int (p0 &&& (3 : Int32)))] [(.int (0 : Int32))]))
            refine own_retN X0 hx hlk hP (t := .boolean) (by simp) hrt (hb hby own_dsame_88) (by decide) (by decide) ⟨congrArg (fun z => some (Value.int z)) ?_, N0, e0⟩
            exact (show own_fsame p0 p1 = (0 : Int32) from (if_pos hc1).trans ((if_pos hc2).trans ((if_pos hc3).trans ((if_neg hc4).trans ((if_neg hc5).trans (rfl)))))).symm
      · refine own_st (fun _ => XS.icmpNo X0.here hx rfl (hb hby own_dsame_39) rfl (flt hc3).1) ?_
        show own_End p e below P (s₁.setTop (mkF m 42 #[.val (.int p0), .val (.int p1), .val (.int (p0 &&& (3 : Int32)))] []))
        refine own_st (fun _ => XS.iloadN X0.here hx rfl (hb hby own_dsame_42) rfl) ?_
        show own_End p e below P (s₁.setTop (mkF m 43 #[.val (.int p0), .val (.int p1), .val (.int (p0 &&& (3 : Int32)))] [(.int p0)]))
        refine own_st (fun _ => XS.bipush X0.here hx rfl (hb hby own_dsame_43)) ?_
        show own_End p e below P (s₁.setTop (mkF m 45 #[.val (.int p0), .val (.int p1), .val (.int (p0 &&& (3 : Int32)))] [(.int (10 : Int32)), (.int p0)]))
        refine own_st (fun _ => XS.iushr X0.here hx rfl (hb hby own_dsame_45) rfl) ?_
        show own_End p e below P (s₁.setTop (mkF m 46 #[.val (.int p0), .val (.int p1), .val (.int (p0 &&& (3 : Int32)))] [(.int ((p0.toUInt32 >>> ((10 : Int32) &&& 31).toUInt32).toInt32))]))
        refine own_st (fun _ => XS.sipush X0.here hx rfl (hb hby own_dsame_46)) ?_
        show own_End p e below P (s₁.setTop (mkF m 49 #[.val (.int p0), .val (.int p1), .val (.int (p0 &&& (3 : Int32)))] [(.int (255 : Int32)), (.int ((p0.toUInt32 >>> ((10 : Int32) &&& 31).toUInt32).toInt32))]))
        refine own_st (fun _ => XS.iand X0.here hx rfl (hb hby own_dsame_49) rfl) ?_
        show own_End p e below P (s₁.setTop (mkF m 50 #[.val (.int p0), .val (.int p1), .val (.int (p0 &&& (3 : Int32)))] [(.int (((p0.toUInt32 >>> ((10 : Int32) &&& 31).toUInt32).toInt32) &&& (255 : Int32)))]))
        refine own_st (fun _ => XS.iloadN X0.here hx rfl (hb hby own_dsame_50) rfl) ?_
        show own_End p e below P (s₁.setTop (mkF m 51 #[.val (.int p0), .val (.int p1), .val (.int (p0 &&& (3 : Int32)))] [(.int p1), (.int (((p0.toUInt32 >>> ((10 : Int32) &&& 31).toUInt32).toInt32) &&& (255 : Int32)))]))
        refine own_st (fun _ => XS.bipush X0.here hx rfl (hb hby own_dsame_51)) ?_
        show own_End p e below P (s₁.setTop (mkF m 53 #[.val (.int p0), .val (.int p1), .val (.int (p0 &&& (3 : Int32)))] [(.int (10 : Int32)), (.int p1), (.int (((p0.toUInt32 >>> ((10 : Int32) &&& 31).toUInt32).toInt32) &&& (255 : Int32)))]))
        refine own_st (fun _ => XS.iushr X0.here hx rfl (hb hby own_dsame_53) rfl) ?_
        show own_End p e below P (s₁.setTop (mkF m 54 #[.val (.int p0), .val (.int p1), .val (.int (p0 &&& (3 : Int32)))] [(.int ((p1.toUInt32 >>> ((10 : Int32) &&& 31).toUInt32).toInt32)), (.int (((p0.toUInt32 >>> ((10 : Int32) &&& 31).toUInt32).toInt32) &&& (255 : Int32)))]))
        refine own_st (fun _ => XS.sipush X0.here hx rfl (hb hby own_dsame_54)) ?_
        show own_End p e below P (s₁.setTop (mkF m 57 #[.val (.int p0), .val (.int p1), .val (.int (p0 &&& (3 : Int32)))] [(.int (255 : Int32)), (.int ((p1.toUInt32 >>> ((10 : Int32) &&& 31).toUInt32).toInt32)), (.int (((p0.toUInt32 >>> ((10 : Int32) &&& 31).toUInt32).toInt32) &&& (255 : Int32)))]))
        refine own_st (fun _ => XS.iand X0.here hx rfl (hb hby own_dsame_57) rfl) ?_
        show own_End p e below P (s₁.setTop (mkF m 58 #[.val (.int p0), .val (.int p1), .val (.int (p0 &&& (3 : Int32)))] [(.int (((p1.toUInt32 >>> ((10 : Int32) &&& 31).toUInt32).toInt32) &&& (255 : Int32))), (.int (((p0.toUInt32 >>> ((10 : Int32) &&& 31).toUInt32).toInt32) &&& (255 : Int32)))]))
        by_cases hc6 : (((p0.toUInt32 >>> ((10 : Int32) &&& 31).toUInt32).toInt32) &&& (255 : Int32)) = (((p1.toUInt32 >>> ((10 : Int32) &&& 31).toUInt32).toInt32) &&& (255 : Int32))
        · refine own_st (fun _ => XS.icmpYes X0.here hx rfl (pc0 := 58) (pc' := 63) rfl (hb hby own_dsame_58) rfl (teq hc6).1 (by decide) (by decide)) ?_
          show own_End p e below P (s₁.setTop (mkF m 63 #[.val (.int p0), .val (.int p1), .val (.int (p0 &&& (3 : Int32)))] []))
          refine own_st (fun _ => XS.iloadN X0.here hx rfl (hb hby own_dsame_63) rfl) ?_
          show own_End p e below P (s₁.setTop (mkF m 64 #[.val (.int p0), .val (.int p1), .val (.int (p0 &&& (3 : Int32)))] [(.int (p0 &&& (3 : Int32)))]))
          refine own_st (fun _ => XS.iconst X0.here hx rfl (hb hby own_dsame_64)) ?_
          show own_End p e below P (s₁.setTop (mkF m 65 #[.val (.int p0), .val (.int p1), .val (.int (p0 &&& (3 : Int32)))] [(.int (3 : Int32)), (.int (p0 &&& (3 : Int32)))]))
          by_cases hc7 : (p0 &&& (3 : Int32)) < (3 : Int32)
          · refine own_st (fun _ => XS.icmpYes X0.here hx rfl (pc0 := 65) (pc' := 89) rfl (hb hby own_dsame_65) rfl (tlt hc7).1 (by decide) (by decide)) ?_
            show own_End p e below P (s₁.setTop (mkF m 89 #[.val (.int p0), .val (.int p1), .val (.int (p0 &&& (3 : Int32)))] []))
            refine own_st (fun _ => XS.iconst X0.here hx rfl (hb hby own_dsame_89)) ?_
            show own_End p e below P (s₁.setTop (mkF m 90 #[.val (.int p0), .val (.int p1), .val (.int (p0 &&& (3 : Int32)))] [(.int (1 : Int32))]))
            refine own_retN X0 hx hlk hP (t := .boolean) (by simp) hrt (hb hby own_dsame_90) (by decide) (by decide) ⟨congrArg (fun z => some (Value.int z)) ?_, N0, e0⟩
            exact (show own_fsame p0 p1 = (1 : Int32) from (if_pos hc1).trans ((if_pos hc2).trans ((if_neg hc3).trans ((if_pos hc6).trans ((if_pos hc7).trans (rfl)))))).symm
          · refine own_st (fun _ => XS.icmpNo X0.here hx rfl (hb hby own_dsame_65) rfl (flt hc7).1) ?_
            show own_End p e below P (s₁.setTop (mkF m 68 #[.val (.int p0), .val (.int p1), .val (.int (p0 &&& (3 : Int32)))] []))
            refine own_st (fun _ => XS.iloadN X0.here hx rfl (hb hby own_dsame_68) rfl) ?_
            show own_End p e below P (s₁.setTop (mkF m 69 #[.val (.int p0), .val (.int p1), .val (.int (p0 &&& (3 : Int32)))] [(.int p0)]))
            refine own_st (fun _ => XS.bipush X0.here hx rfl (hb hby own_dsame_69)) ?_
            show own_End p e below P (s₁.setTop (mkF m 71 #[.val (.int p0), .val (.int p1), .val (.int (p0 &&& (3 : Int32)))] [(.int (18 : Int32)), (.int p0)]))
            refine own_st (fun _ => XS.iushr X0.here hx rfl (hb hby own_dsame_71) rfl) ?_
            show own_End p e below P (s₁.setTop (mkF m 72 #[.val (.int p0), .val (.int p1), .val (.int (p0 &&& (3 : Int32)))] [(.int ((p0.toUInt32 >>> ((18 : Int32) &&& 31).toUInt32).toInt32))]))
            refine own_st (fun _ => XS.sipush X0.here hx rfl (hb hby own_dsame_72)) ?_
            show own_End p e below P (s₁.setTop (mkF m 75 #[.val (.int p0), .val (.int p1), .val (.int (p0 &&& (3 : Int32)))] [(.int (255 : Int32)), (.int ((p0.toUInt32 >>> ((18 : Int32) &&& 31).toUInt32).toInt32))]))
            refine own_st (fun _ => XS.iand X0.here hx rfl (hb hby own_dsame_75) rfl) ?_
            show own_End p e below P (s₁.setTop (mkF m 76 #[.val (.int p0), .val (.int p1), .val (.int (p0 &&& (3 : Int32)))] [(.int (((p0.toUInt32 >>> ((18 : Int32) &&& 31).toUInt32).toInt32) &&& (255 : Int32)))]))
            refine own_st (fun _ => XS.iloadN X0.here hx rfl (hb hby own_dsame_76) rfl) ?_
            show own_End p e below P (s₁.setTop (mkF m 77 #[.val (.int p0), .val (.int p1), .val (.int (p0 &&& (3 : Int32)))] [(.int p1), (.int (((p0.toUInt32 >>> ((18 : Int32) &&& 31).toUInt32).toInt32) &&& (255 : Int32)))]))
            refine own_st (fun _ => XS.bipush X0.here hx rfl (hb hby own_dsame_77)) ?_
            show own_End p e below P (s₁.setTop (mkF m 79 #[.val (.int p0), .val (.int p1), .val (.int (p0 &&& (3 : Int32)))] [(.int (18 : Int32)), (.int p1), (.int (((p0.toUInt32 >>> ((18 : Int32) &&& 31).toUInt32).toInt32) &&& (255 : Int32)))]))
            refine own_st (fun _ => XS.iushr X0.here hx rfl (hb hby own_dsame_79) rfl) ?_
            show own_End p e below P (s₁.setTop (mkF m 80 #[.val (.int p0), .val (.int p1), .val (.int (p0 &&& (3 : Int32)))] [(.int ((p1.toUInt32 >>> ((18 : Int32) &&& 31).toUInt32).toInt32)), (.int (((p0.toUInt32 >>> ((18 : Int32) &&& 31).toUInt32).toInt32) &&& (255 : Int32)))]))
            refine own_st (fun _ => XS.sipush X0.here hx rfl (hb hby own_dsame_80)) ?_
            show own_End p e below P (s₁.setTop (mkF m 83 #[.val (.int p0), .val (.int p1), .val (.int (p0 &&& (3 : Int32)))] [(.int (255 : Int32)), (.int ((p1.toUInt32 >>> ((18 : Int32) &&& 31).toUInt32).toInt32)), (.int (((p0.toUInt32 >>> ((18 : Int32) &&& 31).toUInt32).toInt32) &&& (255 : Int32)))]))
            refine own_st (fun _ => XS.iand X0.here hx rfl (hb hby own_dsame_83) rfl) ?_
            show own_End p e below P (s₁.setTop (mkF m 84 #[.val (.int p0), .val (.int p1), .val (.int (p0 &&& (3 : Int32)))] [(.int (((p1.toUInt32 >>> ((18 : Int32) &&& 31).toUInt32).toInt32) &&& (255 : Int32))), (.int (((p0.toUInt32 >>> ((18 : Int32) &&& 31).toUInt32).toInt32) &&& (255 : Int32)))]))
            by_cases hc8 : (((p0.toUInt32 >>> ((18 : Int32) &&& 31).toUInt32).toInt32) &&& (255 : Int32)) = (((p1.toUInt32 >>> ((18 : Int32) &&& 31).toUInt32).toInt32) &&& (255 : Int32))
            · refine own_st (fun _ => XS.icmpYes X0.here hx rfl (pc0 := 84) (pc' := 89) rfl (hb hby own_dsame_84) rfl (teq hc8).1 (by decide) (by decide)) ?_
              show own_End p e below P (s₁.setTop (mkF m 89 #[.val (.int p0), .val (.int p1), .val (.int (p0 &&& (3 : Int32)))] []))
              refine own_st (fun _ => XS.iconst X0.here hx rfl (hb hby own_dsame_89)) ?_
              show own_End p e below P (s₁.setTop (mkF m 90 #[.val (.int p0), .val (.int p1), .val (.int (p0 &&& (3 : Int32)))] [(.int (1 : Int32))]))
              refine own_retN X0 hx hlk hP (t := .boolean) (by simp) hrt (hb hby own_dsame_90) (by decide) (by decide) ⟨congrArg (fun z => some (Value.int z)) ?_, N0, e0⟩
              exact (show own_fsame p0 p1 = (1 : Int32) from (if_pos hc1).trans ((if_pos hc2).trans ((if_neg hc3).trans ((if_pos hc6).trans ((if_neg hc7).trans ((if_pos hc8).trans (rfl))))))).symm
            · refine own_st (fun _ => XS.icmpNo X0.here hx rfl (hb hby own_dsame_84) rfl (feq hc8).1) ?_
              show own_End p e below P (s₁.setTop (mkF m 87 #[.val (.int p0), .val (.int p1), .val (.int (p0 &&& (3 : Int32)))] []))
              refine own_st (fun _ => XS.iconst X0.here hx rfl (hb hby own_dsame_87)) ?_
              show own_End p e below P (s₁.setTop (mkF m 88 #[.val (.int p0), .val (.int p1), .val (.int (p0 &&& (3 : Int32)))] [(.int (0 : Int32))]))
              refine own_retN X0 hx hlk hP (t := .boolean) (by simp) hrt (hb hby own_dsame_88) (by decide) (by decide) ⟨congrArg (fun z => some (Value.int z)) ?_, N0, e0⟩
              exact (show own_fsame p0 p1 = (0 : Int32) from (if_pos hc1).trans ((if_pos hc2).trans ((if_neg hc3).trans ((if_pos hc6).trans ((if_neg hc7).trans ((if_neg hc8).trans (rfl))))))).symm
        · refine own_st (fun _ => XS.icmpNo X0.here hx rfl (hb hby own_dsame_58) rfl (feq hc6).1) ?_
          show own_End p e below P (s₁.setTop (mkF m 61 #[.val (.int p0), .val (.int p1), .val (.int (p0 &&& (3 : Int32)))] []))
          refine own_st (fun _ => XS.iconst X0.here hx rfl (hb hby own_dsame_61)) ?_
          show own_End p e below P (s₁.setTop (mkF m 62 #[.val (.int p0), .val (.int p1), .val (.int (p0 &&& (3 : Int32)))] [(.int (0 : Int32))]))
          refine own_retN X0 hx hlk hP (t := .boolean) (by simp) hrt (hb hby own_dsame_62) (by decide) (by decide) ⟨congrArg (fun z => some (Value.int z)) ?_, N0, e0⟩
          exact (show own_fsame p0 p1 = (0 : Int32) from (if_pos hc1).trans ((if_pos hc2).trans ((if_neg hc3).trans ((if_neg hc6).trans (rfl))))).symm
    · refine own_st (fun _ => XS.icmpNo X0.here hx rfl (hb hby own_dsame_15) rfl (flt hc2).1) ?_
      show own_End p e below P (s₁.setTop (mkF m 18 #[.val (.int p0), .val (.int p1), .val (.int (p0 &&& (3 : Int32)))] []))
      refine own_st (fun _ => XS.iloadN X0.here hx rfl (hb hby own_dsame_18) rfl) ?_
      show own_End p e below P (s₁.setTop (mkF m 19 #[.val (.int p0), .val (.int p1), .val (.int (p0 &&& (3 : Int32)))] [(.int p0)]))
      refine own_st (fun _ => XS.iconst X0.here hx rfl (hb hby own_dsame_19)) ?_
      show own_End p e below P (s₁.setTop (mkF m 20 #[.val (.int p0), .val (.int p1), .val (.int (p0 &&& (3 : Int32)))] [(.int (2 : Int32)), (.int p0)]))
      refine own_st (fun _ => XS.iushr X0.here hx rfl (hb hby own_dsame_20) rfl) ?_
      show own_End p e below P (s₁.setTop (mkF m 21 #[.val (.int p0), .val (.int p1), .val (.int (p0 &&& (3 : Int32)))] [(.int ((p0.toUInt32 >>> ((2 : Int32) &&& 31).toUInt32).toInt32))]))
      refine own_st (fun _ => XS.sipush X0.here hx rfl (hb hby own_dsame_21)) ?_
      show own_End p e below P (s₁.setTop (mkF m 24 #[.val (.int p0), .val (.int p1), .val (.int (p0 &&& (3 : Int32)))] [(.int (255 : Int32)), (.int ((p0.toUInt32 >>> ((2 : Int32) &&& 31).toUInt32).toInt32))]))
      refine own_st (fun _ => XS.iand X0.here hx rfl (hb hby own_dsame_24) rfl) ?_
      show own_End p e below P (s₁.setTop (mkF m 25 #[.val (.int p0), .val (.int p1), .val (.int (p0 &&& (3 : Int32)))] [(.int (((p0.toUInt32 >>> ((2 : Int32) &&& 31).toUInt32).toInt32) &&& (255 : Int32)))]))
      refine own_st (fun _ => XS.iloadN X0.here hx rfl (hb hby own_dsame_25) rfl) ?_
      show own_End p e below P (s₁.setTop (mkF m 26 #[.val (.int p0), .val (.int p1), .val (.int (p0 &&& (3 : Int32)))] [(.int p1), (.int (((p0.toUInt32 >>> ((2 : Int32) &&& 31).toUInt32).toInt32) &&& (255 : Int32)))]))
      refine own_st (fun _ => XS.iconst X0.here hx rfl (hb hby own_dsame_26)) ?_
      show own_End p e below P (s₁.setTop (mkF m 27 #[.val (.int p0), .val (.int p1), .val (.int (p0 &&& (3 : Int32)))] [(.int (2 : Int32)), (.int p1), (.int (((p0.toUInt32 >>> ((2 : Int32) &&& 31).toUInt32).toInt32) &&& (255 : Int32)))]))
      refine own_st (fun _ => XS.iushr X0.here hx rfl (hb hby own_dsame_27) rfl) ?_
      show own_End p e below P (s₁.setTop (mkF m 28 #[.val (.int p0), .val (.int p1), .val (.int (p0 &&& (3 : Int32)))] [(.int ((p1.toUInt32 >>> ((2 : Int32) &&& 31).toUInt32).toInt32)), (.int (((p0.toUInt32 >>> ((2 : Int32) &&& 31).toUInt32).toInt32) &&& (255 : Int32)))]))
      refine own_st (fun _ => XS.sipush X0.here hx rfl (hb hby own_dsame_28)) ?_
      show own_End p e below P (s₁.setTop (mkF m 31 #[.val (.int p0), .val (.int p1), .val (.int (p0 &&& (3 : Int32)))] [(.int (255 : Int32)), (.int ((p1.toUInt32 >>> ((2 : Int32) &&& 31).toUInt32).toInt32)), (.int (((p0.toUInt32 >>> ((2 : Int32) &&& 31).toUInt32).toInt32) &&& (255 : Int32)))]))
      refine own_st (fun _ => XS.iand X0.here hx rfl (hb hby own_dsame_31) rfl) ?_
      show own_End p e below P (s₁.setTop (mkF m 32 #[.val (.int p0), .val (.int p1), .val (.int (p0 &&& (3 : Int32)))] [(.int (((p1.toUInt32 >>> ((2 : Int32) &&& 31).toUInt32).toInt32) &&& (255 : Int32))), (.int (((p0.toUInt32 >>> ((2 : Int32) &&& 31).toUInt32).toInt32) &&& (255 : Int32)))]))
      by_cases hc9 : (((p0.toUInt32 >>> ((2 : Int32) &&& 31).toUInt32).toInt32) &&& (255 : Int32)) = (((p1.toUInt32 >>> ((2 : Int32) &&& 31).toUInt32).toInt32) &&& (255 : Int32))
      · refine own_st (fun _ => XS.icmpYes X0.here hx rfl (pc0 := 32) (pc' := 37) rfl (hb hby own_dsame_32) rfl (teq hc9).1 (by decide) (by decide)) ?_
        show own_End p e below P (s₁.setTop (mkF m 37 #[.val (.int p0), .val (.int p1), .val (.int (p0 &&& (3 : Int32)))] []))
        refine own_st (fun _ => XS.iloadN X0.here hx rfl (hb hby own_dsame_37) rfl) ?_
        show own_End p e below P (s₁.setTop (mkF m 38 #[.val (.int p0), .val (.int p1), .val (.int (p0 &&& (3 : Int32)))] [(.int (p0 &&& (3 : Int32)))]))
        refine own_st (fun _ => XS.iconst X0.here hx rfl (hb hby own_dsame_38)) ?_
        show own_End p e below P (s₁.setTop (mkF m 39 #[.val (.int p0), .val (.int p1), .val (.int (p0 &&& (3 : Int32)))] [(.int (2 : Int32)), (.int (p0 &&& (3 : Int32)))]))
        by_cases hc10 : (p0 &&& (3 : Int32)) < (2 : Int32)
        · refine own_st (fun _ => XS.icmpYes X0.here hx rfl (pc0 := 39) (pc' := 63) rfl (hb hby own_dsame_39) rfl (tlt hc10).1 (by decide) (by decide)) ?_
          show own_End p e below P (s₁.setTop (mkF m 63 #[.val (.int p0), .val (.int p1), .val (.int (p0 &&& (3 : Int32)))] []))
          refine own_st (fun _ => XS.iloadN X0.here hx rfl (hb hby own_dsame_63) rfl) ?_
          show own_End p e below P (s₁.setTop (mkF m 64 #[.val (.int p0), .val (.int p1), .val (.int (p0 &&& (3 : Int32)))] [(.int (p0 &&& (3 : Int32)))]))
          refine own_st (fun _ => XS.iconst X0.here hx rfl (hb hby own_dsame_64)) ?_
          show own_End p e below P (s₁.setTop (mkF m 65 #[.val (.int p0), .val (.int p1), .val (.int (p0 &&& (3 : Int32)))] [(.int (3 : Int32)), (.int (p0 &&& (3 : Int32)))]))
          by_cases hc11 : (p0 &&& (3 : Int32)) < (3 : Int32)
          · refine own_st (fun _ => XS.icmpYes X0.here hx rfl (pc0 := 65) (pc' := 89) rfl (hb hby own_dsame_65) rfl (tlt hc11).1 (by decide) (by decide)) ?_
            show own_End p e below P (s₁.setTop (mkF m 89 #[.val (.int p0), .val (.int p1), .val (.int (p0 &&& (3 : Int32)))] []))
            refine own_st (fun _ => XS.iconst X0.here hx rfl (hb hby own_dsame_89)) ?_
            show own_End p e below P (s₁.setTop (mkF m 90 #[.val (.int p0), .val (.int p1), .val (.int (p0 &&& (3 : Int32)))] [(.int (1 : Int32))]))
            refine own_retN X0 hx hlk hP (t := .boolean) (by simp) hrt (hb hby own_dsame_90) (by decide) (by decide) ⟨congrArg (fun z => some (Value.int z)) ?_, N0, e0⟩
            exact (show own_fsame p0 p1 = (1 : Int32) from (if_pos hc1).trans ((if_neg hc2).trans ((if_pos hc9).trans ((if_pos hc10).trans ((if_pos hc11).trans (rfl)))))).symm
          · refine own_st (fun _ => XS.icmpNo X0.here hx rfl (hb hby own_dsame_65) rfl (flt hc11).1) ?_
            show own_End p e below P (s₁.setTop (mkF m 68 #[.val (.int p0), .val (.int p1), .val (.int (p0 &&& (3 : Int32)))] []))
            refine own_st (fun _ => XS.iloadN X0.here hx rfl (hb hby own_dsame_68) rfl) ?_
            show own_End p e below P (s₁.setTop (mkF m 69 #[.val (.int p0), .val (.int p1), .val (.int (p0 &&& (3 : Int32)))] [(.int p0)]))
            refine own_st (fun _ => XS.bipush X0.here hx rfl (hb hby own_dsame_69)) ?_
            show own_End p e below P (s₁.setTop (mkF m 71 #[.val (.int p0), .val (.int p1), .val (.int (p0 &&& (3 : Int32)))] [(.int (18 : Int32)), (.int p0)]))
            refine own_st (fun _ => XS.iushr X0.here hx rfl (hb hby own_dsame_71) rfl) ?_
            show own_End p e below P (s₁.setTop (mkF m 72 #[.val (.int p0), .val (.int p1), .val (.int (p0 &&& (3 : Int32)))] [(.int ((p0.toUInt32 >>> ((18 : Int32) &&& 31).toUInt32).toInt32))]))
            refine own_st (fun _ => XS.sipush X0.here hx rfl (hb hby own_dsame_72)) ?_
            show own_End p e below P (s₁.setTop (mkF m 75 #[.val (.int p0), .val (.int p1), .val (.int (p0 &&& (3 : Int32)))] [(.int (255 : Int32)), (.int ((p0.toUInt32 >>> ((18 : Int32) &&& 31).toUInt32).toInt32))]))
            refine own_st (fun _ => XS.iand X0.here hx rfl (hb hby own_dsame_75) rfl) ?_
            show own_End p e below P (s₁.setTop (mkF m 76 #[.val (.int p0), .val (.int p1), .val (.int (p0 &&& (3 : Int32)))] [(.int (((p0.toUInt32 >>> ((18 : Int32) &&& 31).toUInt32).toInt32) &&& (255 : Int32)))]))
            refine own_st (fun _ => XS.iloadN X0.here hx rfl (hb hby own_dsame_76) rfl) ?_
            show own_End p e below P (s₁.setTop (mkF m 77 #[.val (.int p0), .val (.int p1), .val (.int (p0 &&& (3 : Int32)))] [(.int p1), (.int (((p0.toUInt32 >>> ((18 : Int32) &&& 31).toUInt32).toInt32) &&& (255 : Int32)))]))
            refine own_st (fun _ => XS.bipush X0.here hx rfl (hb hby own_dsame_77)) ?_
            show own_End p e below P (s₁.setTop (mkF m 79 #[.val (.int p0), .val (.int p1), .val (.int (p0 &&& (3 : Int32)))] [(.int (18 : Int32)), (.int p1), (.int (((p0.toUInt32 >>> ((18 : Int32) &&& 31).toUInt32).toInt32) &&& (255 : Int32)))]))
            refine own_st (fun _ => XS.iushr X0.here hx rfl (hb hby own_dsame_79) rfl) ?_
            show own_End p e below P (s₁.setTop (mkF m 80 #[.val (.int p0), .val (.int p1), .val (.int (p0 &&& (3 : Int32)))] [(.int ((p1.toUInt32 >>> ((18 : Int32) &&& 31).toUInt32).toInt32)), (.int (((p0.toUInt32 >>> ((18 : Int32) &&& 31).toUInt32).toInt32) &&& (255 : Int32)))]))
            refine own_st (fun _ => XS.sipush X0.here hx rfl (hb hby own_dsame_80)) ?_
            show own_End p e below P (s₁.setTop (mkF m 83 #[.val (.int p0), .val (.int p1), .val (.int (p0 &&& (3 : Int32)))] [(.int (255 : Int32)), (.int ((p1.toUInt32 >>> ((18 : Int32) &&& 31).toUInt32).toInt32)), (.int (((p0.toUInt32 >>> ((18 : Int32) &&& 31).toUInt32).toInt32) &&& (255 : Int32)))]))
            refine own_st (fun _ => XS.iand X0.here hx rfl (hb hby own_dsame_83) rfl) ?_
            show own_End p e below P (s₁.setTop (mkF m 84 #[.val (.int p0), .val (.int p1), .val (.int (p0 &&& (3 : Int32)))] [(.int (((p1.toUInt32 >>> ((18 : Int32) &&& 31).toUInt32).toInt32) &&& (255 : Int32))), (.int (((p0.toUInt32 >>> ((18 : Int32) &&& 31).toUInt32).toInt32) &&& (255 : Int32)))]))
            by_cases hc12 : (((p0.toUInt32 >>> ((18 : Int32) &&& 31).toUInt32).toInt32) &&& (255 : Int32)) = (((p1.toUInt32 >>> ((18 : Int32) &&& 31).toUInt32).toInt32) &&& (255 : Int32))
            · refine own_st (fun _ => XS.icmpYes X0.here hx rfl (pc0 := 84) (pc' := 89) rfl (hb hby own_dsame_84) rfl (teq hc12).1 (by decide) (by decide)) ?_
              show own_End p e below P (s₁.setTop (mkF m 89 #[.val (.int p0), .val (.int p1), .val (.int (p0 &&& (3 : Int32)))] []))
              refine own_st (fun _ => XS.iconst X0.here hx rfl (hb hby own_dsame_89)) ?_
              show own_End p e below P (s₁.setTop (mkF m 90 #[.val (.int p0), .val (.int p1), .val (.int (p0 &&& (3 : Int32)))] [(.int (1 : Int32))]))
              refine own_retN X0 hx hlk hP (t := .boolean) (by simp) hrt (hb hby own_dsame_90) (by decide) (by decide) ⟨congrArg (fun z => some (Value.int z)) ?_, N0, e0⟩
              exact (show own_fsame p0 p1 = (1 : Int32) from (if_pos hc1).trans ((if_neg hc2).trans ((if_pos hc9).trans ((if_pos hc10).trans ((if_neg hc11).trans ((if_pos hc12).trans (rfl))))))).symm
            · refine own_st (fun _ => XS.icmpNo X0.here hx rfl (hb hby own_dsame_84) rfl (feq hc12).1) ?_
              show own_End p e below P (s₁.setTop (mkF m 87 #[.val (.int p0), .val (.int p1), .val (.int (p0 &&& (3 : Int32)))] []))
              refine own_st (fun _ => XS.iconst X0.here hx rfl (hb hby own_dsame_87)) ?_
              show own_End p e below P (s₁.setTop (mkF m 88 #[.val (.int p0), .val (.int p1), .val (.int (p0 &&& (3 : Int32)))] [(.int (0 : Int32))]))
              refine own_retN X0 hx hlk hP (t := .boolean) (by simp) hrt (hb hby own_dsame_88) (by decide) (by decide) ⟨congrArg (fun z => some (Value.int z)) ?_, N0, e0⟩
              exact (show own_fsame p0 p1 = (0 : Int32) from (if_pos hc1).trans ((if_neg hc2).trans ((if_pos hc9).trans ((if_pos hc10).trans ((if_neg hc11).trans ((if_neg hc12).trans (rfl))))))).symm
        · refine own_st (fun _ => XS.icmpNo X0.here hx rfl (hb hby own_dsame_39) rfl (flt hc10).1) ?_
          show own_End p e below P (s₁.setTop (mkF m 42 #[.val (.int p0), .val (.int p1), .val (.int (p0 &&& (3 : Int32)))] []))
          refine own_st (fun _ => XS.iloadN X0.here hx rfl (hb hby own_dsame_42) rfl) ?_
          show own_End p e below P (s₁.setTop (mkF m 43 #[.val (.int p0), .val (.int p1), .val (.int (p0 &&& (3 : Int32)))] [(.int p0)]))
          refine own_st (fun _ => XS.bipush X0.here hx rfl (hb hby own_dsame_43)) ?_
          show own_End p e below P (s₁.setTop (mkF m 45 #[.val (.int p0), .val (.int p1), .val (.int (p0 &&& (3 : Int32)))] [(.int (10 : Int32)), (.int p0)]))
          refine own_st (fun _ => XS.iushr X0.here hx rfl (hb hby own_dsame_45) rfl) ?_
          show own_End p e below P (s₁.setTop (mkF m 46 #[.val (.int p0), .val (.int p1), .val (.int (p0 &&& (3 : Int32)))] [(.int ((p0.toUInt32 >>> ((10 : Int32) &&& 31).toUInt32).toInt32))]))
          refine own_st (fun _ => XS.sipush X0.here hx rfl (hb hby own_dsame_46)) ?_
          show own_End p e below P (s₁.setTop (mkF m 49 #[.val (.int p0), .val (.int p1), .val (.int (p0 &&& (3 : Int32)))] [(.int (255 : Int32)), (.int ((p0.toUInt32 >>> ((10 : Int32) &&& 31).toUInt32).toInt32))]))
          refine own_st (fun _ => XS.iand X0.here hx rfl (hb hby own_dsame_49) rfl) ?_
          show own_End p e below P (s₁.setTop (mkF m 50 #[.val (.int p0), .val (.int p1), .val (.int (p0 &&& (3 : Int32)))] [(.int (((p0.toUInt32 >>> ((10 : Int32) &&& 31).toUInt32).toInt32) &&& (255 : Int32)))]))
          refine own_st (fun _ => XS.iloadN X0.here hx rfl (hb hby own_dsame_50) rfl) ?_
          show own_End p e below P (s₁.setTop (mkF m 51 #[.val (.int p0), .val (.int p1), .val (.int (p0 &&& (3 : Int32)))] [(.int p1), (.int (((p0.toUInt32 >>> ((10 : Int32) &&& 31).toUInt32).toInt32) &&& (255 : Int32)))]))
          refine own_st (fun _ => XS.bipush X0.here hx rfl (hb hby own_dsame_51)) ?_
          show own_End p e below P (s₁.setTop (mkF m 53 #[.val (.int p0), .val (.int p1), .val (.int (p0 &&& (3 : Int32)))] [(.int (10 : Int32)), (.int p1), (.int (((p0.toUInt32 >>> ((10 : Int32) &&& 31).toUInt32).toInt32) &&& (255 : Int32)))]))
          refine own_st (fun _ => XS.iushr X0.here hx rfl (hb hby own_dsame_53) rfl) ?_
          show own_End p e below P (s₁.setTop (mkF m 54 #[.val (.int p0), .val (.int p1), .val (.int (p0 &&& (3 : Int32)))] [(.int ((p1.toUInt32 >>> ((10 : Int32) &&& 31).toUInt32).toInt32)), (.int (((p0.toUInt32 >>> ((10 : Int32) &&& 31).toUInt32).toInt32) &&& (255 : Int32)))]))
          refine own_st (fun _ => XS.sipush X0.here hx rfl (hb hby own_dsame_54)) ?_
          show own_End p e below P (s₁.setTop (mkF m 57 #[.val (.int p0), .val (.int p1), .val (.int (p0 &&& (3 : Int32)))] [(.int (255 : Int32)), (.int ((p1.toUInt32 >>> ((10 : Int32) &&& 31).toUInt32).toInt32)), (.int (((p0.toUInt32 >>> ((10 : Int32) &&& 31).toUInt32).toInt32) &&& (255 : Int32)))]))
          refine own_st (fun _ => XS.iand X0.here hx rfl (hb hby own_dsame_57) rfl) ?_
          show own_End p e below P (s₁.setTop (mkF m 58 #[.val (.int p0), .val (.int p1), .val (.int (p0 &&& (3 : Int32)))] [(.int (((p1.toUInt32 >>> ((10 : Int32) &&& 31).toUInt32).toInt32) &&& (255 : Int32))), (.int (((p0.toUInt32 >>> ((10 : Int32) &&& 31).toUInt32).toInt32) &&& (255 : Int32)))]))
          by_cases hc13 : (((p0.toUInt32 >>> ((10 : Int32) &&& 31).toUInt32).toInt32) &&& (255 : Int32)) = (((p1.toUInt32 >>> ((10 : Int32) &&& 31).toUInt32).toInt32) &&& (255 : Int32))
          · refine own_st (fun _ => XS.icmpYes X0.here hx rfl (pc0 := 58) (pc' := 63) rfl (hb hby own_dsame_58) rfl (teq hc13).1 (by decide) (by decide)) ?_
            show own_End p e below P (s₁.setTop (mkF m 63 #[.val (.int p0), .val (.int p1), .val (.int (p0 &&& (3 : Int32)))] []))
            refine own_st (fun _ => XS.iloadN X0.here hx rfl (hb hby own_dsame_63) rfl) ?_
            show own_End p e below P (s₁.setTop (mkF m 64 #[.val (.int p0), .val (.int p1), .val (.int (p0 &&& (3 : Int32)))] [(.int (p0 &&& (3 : Int32)))]))
            refine own_st (fun _ => XS.iconst X0.here hx rfl (hb hby own_dsame_64)) ?_
            show own_End p e below P (s₁.setTop (mkF m 65 #[.val (.int p0), .val (.int p1), .val (.int (p0 &&& (3 : Int32)))] [(.int (3 : Int32)), (.int (p0 &&& (3 : Int32)))]))
            by_cases hc14 : (p0 &&& (3 : Int32)) < (3 : Int32)
            · refine own_st (fun _ => XS.icmpYes X0.here hx rfl (pc0 := 65) (pc' := 89) rfl (hb hby own_dsame_65) rfl (tlt hc14).1 (by decide) (by decide)) ?_
              show own_End p e below P (s₁.setTop (mkF m 89 #[.val (.int p0), .val (.int p1), .val (.int (p0 &&& (3 : Int32)))] []))
              refine own_st (fun _ => XS.iconst X0.here hx rfl (hb hby own_dsame_89)) ?_
              show own_End p e below P (s₁.setTop (mkF m 90 #[.val (.int p0), .val (.int p1), .val (.int (p0 &&& (3 : Int32)))] [(.int (1 : Int32))]))
              refine own_retN X0 hx hlk hP (t := .boolean) (by simp) hrt (hb hby own_dsame_90) (by decide) (by decide) ⟨congrArg (fun z => some (Value.int z)) ?_, N0, e0⟩
              exact (show own_fsame p0 p1 = (1 : Int32) from (if_pos hc1).trans ((if_neg hc2).trans ((if_pos hc9).trans ((if_neg hc10).trans ((if_pos hc13).trans ((if_pos hc14).trans (rfl))))))).symm
            · refine own_st (fun _ => XS.icmpNo X0.here hx rfl (hb hby own_dsame_65) rfl (flt hc14).1) ?_
              show own_End p e below P (s₁.setTop (mkF m 68 #[.val (.int p0), .val (.int p1), .val (.int (p0 &&& (3 : Int32)))] []))
              refine own_st (fun _ => XS.iloadN X0.here hx rfl (hb hby own_dsame_68) rfl) ?_
              show own_End p e below P (s₁.setTop (mkF m 69 #[.val (.int p0), .val (.int p1), .val (.int (p0 &&& (3 : Int32)))] [(.int p0)]))
              refine own_st (fun _ => XS.bipush X0.here hx rfl (hb hby own_dsame_69)) ?_
              show own_End p e below P (s₁.setTop (mkF m 71 #[.val (.int p0), .val (.int p1), .val (.int (p0 &&& (3 : Int32)))] [(.int (18 : Int32)), (.int p0)]))
              refine own_st (fun _ => XS.iushr X0.here hx rfl (hb hby own_dsame_71) rfl) ?_
              show own_End p e below P (s₁.setTop (mkF m 72 #[.val (.int p0), .val (.int p1), .val (.int (p0 &&& (3 : Int32)))] [(.int ((p0.toUInt32 >>> ((18 : Int32) &&& 31).toUInt32).toInt32))]))
              refine own_st (fun _ => XS.sipush X0.here hx rfl (hb hby own_dsame_72)) ?_
              show own_End p e below P (s₁.setTop (mkF m 75 #[.val (.int p0), .val (.int p1), .val (.int (p0 &&& (3 : Int32)))] [(.int (255 : Int32)), (.int ((p0.toUInt32 >>> ((18 : Int32) &&& 31).toUInt32).toInt32))]))
              refine own_st (fun _ => XS.iand X0.here hx rfl (hb hby own_dsame_75) rfl) ?_
              show own_End p e below P (s₁.setTop (mkF m 76 #[.val (.int p0), .val (.int p1), .val (.int (p0 &&& (3 : Int32)))] [(.int (((p0.toUInt32 >>> ((18 : Int32) &&& 31).toUInt32).toInt32) &&& (255 : Int32)))]))
              refine own_st (fun _ => XS.iloadN X0.here hx rfl (hb hby own_dsame_76) rfl) ?_
              show own_End p e below P (s₁.setTop (mkF m 77 #[.val (.int p0), .val (.int p1), .val (.int (p0 &&& (3 : Int32)))] [(.int p1), (.int (((p0.toUInt32 >>> ((18 : Int32) &&& 31).toUInt32).toInt32) &&& (255 : Int32)))]))
              refine own_st (fun _ => XS.bipush X0.here hx rfl (hb hby own_dsame_77)) ?_
              show own_End p e below P (s₁.setTop (mkF m 79 #[.val (.int p0), .val (.int p1), .val (.int (p0 &&& (3 : Int32)))] [(.int (18 : Int32)), (.int p1), (.int (((p0.toUInt32 >>> ((18 : Int32) &&& 31).toUInt32).toInt32) &&& (255 : Int32)))]))
              refine own_st (fun _ => XS.iushr X0.here hx rfl (hb hby own_dsame_79) rfl) ?_
              show own_End p e below P (s₁.setTop (mkF m 80 #[.val (.int p0), .val (.int p1), .val (.int (p0 &&& (3 : Int32)))] [(.int ((p1.toUInt32 >>> ((18 : Int32) &&& 31).toUInt32).toInt32)), (.int (((p0.toUInt32 >>> ((18 : Int32) &&& 31).toUInt32).toInt32) &&& (255 : Int32)))]))
              refine own_st (fun _ => XS.sipush X0.here hx rfl (hb hby own_dsame_80)) ?_
              show own_End p e below P (s₁.setTop (mkF m 83 #[.val (.int p0), .val (.int p1), .val (.int (p0 &&& (3 : Int32)))] [(.int (255 : Int32)), (.int ((p1.toUInt32 >>> ((18 : Int32) &&& 31).toUInt32).toInt32)), (.int (((p0.toUInt32 >>> ((18 : Int32) &&& 31).toUInt32).toInt32) &&& (255 : Int32)))]))
              refine own_st (fun _ => XS.iand X0.here hx rfl (hb hby own_dsame_83) rfl) ?_
              show own_End p e below P (s₁.setTop (mkF m 84 #[.val (.int p0), .val (.int p1), .val (.int (p0 &&& (3 : Int32)))] [(.int (((p1.toUInt32 >>> ((18 : Int32) &&& 31).toUInt32).toInt32) &&& (255 : Int32))), (.int (((p0.toUInt32 >>> ((18 : Int32) &&& 31).toUInt32).toInt32) &&& (255 : Int32)))]))
              by_cases hc15 : (((p0.toUInt32 >>> ((18 : Int32) &&& 31).toUInt32).toInt32) &&& (255 : Int32)) = (((p1.toUInt32 >>> ((18 : Int32) &&& 31).toUInt32).toInt32) &&& (255 : Int32))
              · refine own_st (fun _ => XS.icmpYes X0.here hx rfl (pc0 := 84) (pc' := 89) rfl (hb hby own_dsame_84) rfl (teq hc15).1 (by decide) (by decide)) ?_
                show own_End p e below P (s₁.setTop (mkF m 89 #[.val (.int p0), .val (.int p1), .val (.int (p0 &&& (3 : Int32)))] []))
                refine own_st (fun _ => XS.iconst X0.here hx rfl (hb hby own_dsame_89)) ?_
                show own_End p e below P (s₁.setTop (mkF m 90 #[.val (.int p0), .val (.int p1), .val (.int (p0 &&& (3 : Int32)))] [(.int (1 : Int32))]))
                refine own_retN X0 hx hlk hP (t := .boolean) (by simp) hrt (hb hby own_dsame_90) (by decide) (by decide) ⟨congrArg (fun z => some (Value.int z)) ?_, N0, e0⟩
                exact (show own_fsame p0 p1 = (1 : Int32) from (if_pos hc1).trans ((if_neg hc2).trans ((if_pos hc9).trans ((if_neg hc10).trans ((if_pos hc13).trans ((if_neg hc14).trans ((if_pos hc15).trans (rfl)))))))).symm
              · refine own_st (fun _ => XS.icmpNo X0.here hx rfl (hb hby own_dsame_84) rfl (feq hc15).1) ?_
                show own_End p e below P (s₁.setTop (mkF m 87 #[.val (.int p0), .val (.int p1), .val (.int (p0 &&& (3 : Int32)))] []))
                refine own_st (fun _ => XS.iconst X0.here hx rfl (hb hby own_dsame_87)) ?_
                show own_End p e below P (s₁.setTop (mkF m 88 #[.val (.int p0), .val (.int p1), .val (.int (p0 &&& (3 : Int32)))] [(.int (0 : Int32))]))
                refine own_retN X0 hx hlk hP (t := .boolean) (by simp) hrt (hb hby own_dsame_88) (by decide) (by decide) ⟨congrArg (fun z => some (Value.int z)) ?_, N0, e0⟩
                exact (show own_fsame p0 p1 = (0 : Int32) from (if_pos hc1).trans ((if_neg hc2).trans ((if_pos hc9).trans ((if_neg hc10).trans ((if_pos hc13).trans ((if_neg hc14).trans ((if_neg hc15).trans (rfl)))))))).symm
          · refine own_st (fun _ => XS.icmpNo X0.here hx rfl (hb hby own_dsame_58) rfl (feq hc13).1) ?_
            show own_End p e below P (s₁.setTop (mkF m 61 #[.val (.int p0), .val (.int p1), .val (.int (p0 &&& (3 : Int32)))] []))
            refine own_st (fun _ => XS.iconst X0.here hx rfl (hb hby own_dsame_61)) ?_
            show own_End p e below P (s₁.setTop (mkF m 62 #[.val (.int p0), .val (.int p1), .val (.int (p0 &&& (3 : Int32)))] [(.int (0 : Int32))]))
            refine own_retN X0 hx hlk hP (t := .boolean) (by simp) hrt (hb hby own_dsame_62) (by decide) (by decide) ⟨congrArg (fun z => some (Value.int z)) ?_, N0, e0⟩
            exact (show own_fsame p0 p1 = (0 : Int32) from (if_pos hc1).trans ((if_neg hc2).trans ((if_pos hc9).trans ((if_neg hc10).trans ((if_neg hc13).trans (rfl)))))).symm
      · refine own_st (fun _ => XS.icmpNo X0.here hx rfl (hb hby own_dsame_32) rfl (feq hc9).1) ?_
        show own_End p e below P (s₁.setTop (mkF m 35 #[.val (.int p0), .val (.int p1), .val (.int (p0 &&& (3 : Int32)))] []))
        refine own_st (fun _ => XS.iconst X0.here hx rfl (hb hby own_dsame_35)) ?_
        show own_End p e below P (s₁.setTop (mkF m 36 #[.val (.int p0), .val (.int p1), .val (.int (p0 &&& (3 : Int32)))] [(.int (0 : Int32))]))
        refine own_retN X0 hx hlk hP (t := .boolean) (by simp) hrt (hb hby own_dsame_36) (by decide) (by decide) ⟨congrArg (fun z => some (Value.int z)) ?_, N0, e0⟩
        exact (show own_fsame p0 p1 = (0 : Int32) from (if_pos hc1).trans ((if_neg hc2).trans ((if_neg hc9).trans (rfl)))).symm
  · refine own_st (fun _ => XS.icmpNo X0.here hx rfl (hb hby own_dsame_8) rfl (feq hc1).1) ?_
    show own_End p e below P (s₁.setTop (mkF m 11 #[.val (.int p0), .val (.int p1), .val (.int (p0 &&& (3 : Int32)))] []))
    refine own_st (fun _ => XS.iconst X0.here hx rfl (hb hby own_dsame_11)) ?_
    show own_End p e below P (s₁.setTop (mkF m 12 #[.val (.int p0), .val (.int p1), .val (.int (p0 &&& (3 : Int32)))] [(.int (0 : Int32))]))
    refine own_retN X0 hx hlk hP (t := .boolean) (by simp) hrt (hb hby own_dsame_12) (by decide) (by decide) ⟨congrArg (fun z => some (Value.int z)) ?_, N0, e0⟩
    exact (show own_fsame p0 p1 = (0 : Int32) from (if_neg hc1).trans (rfl)).symm
theorem own_dcp1_0 : decode jdk_52_method_21_code 0 = .ok (.iconst 0, 1) := by decide +kernel
theorem own_dcp1_1 : decode jdk_52_method_21_code 1 = .ok (.istore 5, 2) := by decide +kernel
theorem own_dcp1_3 : decode jdk_52_method_21_code 3 = .ok (.iload 5, 2) := by decide +kernel
theorem own_dcp1_5 : decode jdk_52_method_21_code 5 = .ok (.iload 4, 2) := by decide +kernel
theorem own_dcp1_7 : decode jdk_52_method_21_code 7 = .ok (.if_icmp .ge 37, 3) := by decide +kernel
theorem own_dcp1_10 : decode jdk_52_method_21_code 10 = .ok (.aload_n 0, 1) := by decide +kernel
theorem own_dcp1_11 : decode jdk_52_method_21_code 11 = .ok (.iload_n 1, 1) := by decide +kernel
theorem own_dcp1_12 : decode jdk_52_method_21_code 12 = .ok (.caload, 1) := by decide +kernel
theorem own_dcp1_13 : decode jdk_52_method_21_code 13 = .ok (.istore 6, 2) := by decide +kernel
theorem own_dcp1_15 : decode jdk_52_method_21_code 15 = .ok (.iload 6, 2) := by decide +kernel
theorem own_dcp1_17 : decode jdk_52_method_21_code 17 = .ok (.sipush 255, 3) := by decide +kernel
theorem own_dcp1_20 : decode jdk_52_method_21_code 20 = .ok (.if_icmp .le 6, 3) := by decide +kernel
theorem own_dcp1_26 : decode jdk_52_method_21_code 26 = .ok (.aload_n 2, 1) := by decide +kernel
theorem own_dcp1_27 : decode jdk_52_method_21_code 27 = .ok (.iload_n 3, 1) := by decide +kernel
theorem own_dcp1_28 : decode jdk_52_method_21_code 28 = .ok (.iload 6, 2) := by decide +kernel
theorem own_dcp1_30 : decode jdk_52_method_21_code 30 = .ok (.i2b, 1) := by decide +kernel
theorem own_dcp1_31 : decode jdk_52_method_21_code 31 = .ok (.bastore, 1) := by decide +kernel
theorem own_dcp1_32 : decode jdk_52_method_21_code 32 = .ok (.iinc 1 1, 3) := by decide +kernel
theorem own_dcp1_35 : decode jdk_52_method_21_code 35 = .ok (.iinc 3 1, 3) := by decide +kernel
theorem own_dcp1_38 : decode jdk_52_method_21_code 38 = .ok (.iinc 5 1, 3) := by decide +kernel
theorem own_dcp1_41 : decode jdk_52_method_21_code 41 = .ok (.goto (-38), 3) := by decide +kernel
theorem own_dcp1_44 : decode jdk_52_method_21_code 44 = .ok (.iload 4, 2) := by decide +kernel
theorem own_dcp1_46 : decode jdk_52_method_21_code 46 = .ok (.ireturn, 1) := by decide +kernel
theorem own_efcp1 (m : MethodId) (o0 : Addr) (o2 : Addr) : entryFrame m #[(.ref o0), (.int (0 : Int32)), (.ref o2), (.int (0 : Int32)), (.int (1 : Int32))] 7 = mkF m 0 #[.val (.ref o0), .val (.int (0 : Int32)), .val (.ref o2), .val (.int (0 : Int32)), .val (.int (1 : Int32)), .unset, .unset] [] := by first | (simp [entryFrame, mkF, argsToLocals, Value.category]; done) | rfl
theorem own_pn_java_lang_StringUTF16 : plainName "java/lang/StringUTF16" = true := by first | (simp [plainName, overriddenIn]; done) | decide +kernel
set_option maxRecDepth 65536 in
set_option maxHeartbeats 40000000 in
theorem own_mcp1 (l : Launch) (Z : State) (a0 : Array Value) (hw : ∀ d ∈ tables_1, d.before a0 Z = true) (ws : List Jvm.Cond) (o0 : Addr) (o2 : Addr) (c0 : Int32) (h0 : Heap) (n0 : Nat) (Z0 : n0 ≤ h0.size) (A_o0 : own_CA Z h0 o0 [c0]) (A_o2 : own_BA Z h0 o2 [(0 : Int32)]) (low_o2 : n0 ≤ o2) (ne_o0_o2 : o0 ≠ o2) (hi0 : ¬ ((255 : Int32) < c0)) :
    own_Met l Z (⟨"java/lang/StringUTF16", "compress", "([CI[BII)I"⟩ : MethodName) jdk_52_method_21_code 7 (some .int) ws ({ frames := 0, cells := 0, slots := 0, locals := 0 } : Room) #[(.ref o0), (.int (0 : Int32)), (.ref o2), (.int (0 : Int32)), (.int (1 : Int32))] h0 (fun (v : Option Value) (h : Heap) (L : List Loc) => v = some (.int (1 : Int32)) ∧ Fr n0 L ∧ Keep h0 h [o2] ∧ own_BA Z h o2 [(nar .byte (c0.toInt8.toInt32))]) := by
  refine own_enter (plainFor_of_name own_pn_java_lang_StringUTF16) ?_
  intro p e s m below meth c s₁ P hx hby hml hrt hlk hown hnm hZ X0 e0 hP
  have N0 := Fr.nil n0
  have K0 := Keep.refl h0 [o2]
  have hml' : c.maxLocals = 7 := hml
  refine own_cast (own_efcp1 m o0 o2) ?_
  show own_End p e below P (s₁.setTop (mkF m 0 #[.val (.ref o0), .val (.int (0 : Int32)), .val (.ref o2), .val (.int (0 : Int32)), .val (.int (1 : Int32)), .unset, .unset] []))
  refine own_st (fun _ => XS.iconst X0.here hx rfl (hb hby own_dcp1_0)) ?_
  show own_End p e below P (s₁.setTop (mkF m 1 #[.val (.ref o0), .val (.int (0 : Int32)), .val (.ref o2), .val (.int (0 : Int32)), .val (.int (1 : Int32)), .unset, .unset] [(.int (0 : Int32))]))
  refine own_st (fun _ => XS.istore X0.here hx rfl (hb hby own_dcp1_1) rfl (l' := #[.val (.ref o0), .val (.int (0 : Int32)), .val (.ref o2), .val (.int (0 : Int32)), .val (.int (1 : Int32)), .val (.int (0 : Int32)), .unset]) rfl) ?_
  show own_End p e below P (s₁.setTop (mkF m 3 #[.val (.ref o0), .val (.int (0 : Int32)), .val (.ref o2), .val (.int (0 : Int32)), .val (.int (1 : Int32)), .val (.int (0 : Int32)), .unset] []))
  refine own_st (fun _ => XS.iload X0.here hx rfl (hb hby own_dcp1_3) rfl) ?_
  show own_End p e below P (s₁.setTop (mkF m 5 #[.val (.ref o0), .val (.int (0 : Int32)), .val (.ref o2), .val (.int (0 : Int32)), .val (.int (1 : Int32)), .val (.int (0 : Int32)), .unset] [(.int (0 : Int32))]))
  refine own_st (fun _ => XS.iload X0.here hx rfl (hb hby own_dcp1_5) rfl) ?_
  show own_End p e below P (s₁.setTop (mkF m 7 #[.val (.ref o0), .val (.int (0 : Int32)), .val (.ref o2), .val (.int (0 : Int32)), .val (.int (1 : Int32)), .val (.int (0 : Int32)), .unset] [(.int (1 : Int32)), (.int (0 : Int32))]))
  refine own_st (fun _ => XS.icmpNo X0.here hx rfl (hb hby own_dcp1_7) rfl (tlt (by decide : (0 : Int32) < (1 : Int32))).2.1) ?_
  show own_End p e below P (s₁.setTop (mkF m 10 #[.val (.ref o0), .val (.int (0 : Int32)), .val (.ref o2), .val (.int (0 : Int32)), .val (.int (1 : Int32)), .val (.int (0 : Int32)), .unset] []))
  refine own_st (fun _ => XS.aloadN X0.here hx rfl (hb hby own_dcp1_10) rfl rfl) ?_
  show own_End p e below P (s₁.setTop (mkF m 11 #[.val (.ref o0), .val (.int (0 : Int32)), .val (.ref o2), .val (.int (0 : Int32)), .val (.int (1 : Int32)), .val (.int (0 : Int32)), .unset] [(.ref o0)]))
  refine own_st (fun _ => XS.iloadN X0.here hx rfl (hb hby own_dcp1_11) rfl) ?_
  show own_End p e below P (s₁.setTop (mkF m 12 #[.val (.ref o0), .val (.int (0 : Int32)), .val (.ref o2), .val (.int (0 : Int32)), .val (.int (1 : Int32)), .val (.int (0 : Int32)), .unset] [(.int (0 : Int32)), (.ref o0)]))
  refine own_caload X0 hx hZ e0 A_o0 (j := (0 : Int32)) (v := c0) (i := 0) (by decide) rfl (g := (mkF m 12 #[.val (.ref o0), .val (.int (0 : Int32)), .val (.ref o2), .val (.int (0 : Int32)), .val (.int (1 : Int32)), .val (.int (0 : Int32)), .unset] [(.int (0 : Int32)), (.ref o0)])) rfl rfl (hb hby own_dcp1_12) ?_
  show own_End p e below P (s₁.setTop (mkF m 13 #[.val (.ref o0), .val (.int (0 : Int32)), .val (.ref o2), .val (.int (0 : Int32)), .val (.int (1 : Int32)), .val (.int (0 : Int32)), .unset] [(.int c0)]))
  refine own_st (fun _ => XS.istore X0.here hx rfl (hb hby own_dcp1_13) rfl (l' := #[.val (.ref o0), .val (.int (0 : Int32)), .val (.ref o2), .val (.int (0 : Int32)), .val (.int (1 : Int32)), .val (.int (0 : Int32)), .val (.int c0)]) rfl) ?_
  show own_End p e below P (s₁.setTop (mkF m 15 #[.val (.ref o0), .val (.int (0 : Int32)), .val (.ref o2), .val (.int (0 : Int32)), .val (.int (1 : Int32)), .val (.int (0 : Int32)), .val (.int c0)] []))
  refine own_st (fun _ => XS.iload X0.here hx rfl (hb hby own_dcp1_15) rfl) ?_
  show own_End p e below P (s₁.setTop (mkF m 17 #[.val (.ref o0), .val (.int (0 : Int32)), .val (.ref o2), .val (.int (0 : Int32)), .val (.int (1 : Int32)), .val (.int (0 : Int32)), .val (.int c0)] [(.int c0)]))
  refine own_st (fun _ => XS.sipush X0.here hx rfl (hb hby own_dcp1_17)) ?_
  show own_End p e below P (s₁.setTop (mkF m 20 #[.val (.ref o0), .val (.int (0 : Int32)), .val (.ref o2), .val (.int (0 : Int32)), .val (.int (1 : Int32)), .val (.int (0 : Int32)), .val (.int c0)] [(.int (255 : Int32)), (.int c0)]))
  refine own_st (fun _ => XS.icmpYes X0.here hx rfl (pc0 := 20) (pc' := 26) rfl (hb hby own_dcp1_20) rfl (flt hi0).2.2.2 (by decide) (by decide)) ?_
  show own_End p e below P (s₁.setTop (mkF m 26 #[.val (.ref o0), .val (.int (0 : Int32)), .val (.ref o2), .val (.int (0 : Int32)), .val (.int (1 : Int32)), .val (.int (0 : Int32)), .val (.int c0)] []))
  refine own_st (fun _ => XS.aloadN X0.here hx rfl (hb hby own_dcp1_26) rfl rfl) ?_
  show own_End p e below P (s₁.setTop (mkF m 27 #[.val (.ref o0), .val (.int (0 : Int32)), .val (.ref o2), .val (.int (0 : Int32)), .val (.int (1 : Int32)), .val (.int (0 : Int32)), .val (.int c0)] [(.ref o2)]))
  refine own_st (fun _ => XS.iloadN X0.here hx rfl (hb hby own_dcp1_27) rfl) ?_
  show own_End p e below P (s₁.setTop (mkF m 28 #[.val (.ref o0), .val (.int (0 : Int32)), .val (.ref o2), .val (.int (0 : Int32)), .val (.int (1 : Int32)), .val (.int (0 : Int32)), .val (.int c0)] [(.int (0 : Int32)), (.ref o2)]))
  refine own_st (fun _ => XS.iload X0.here hx rfl (hb hby own_dcp1_28) rfl) ?_
  show own_End p e below P (s₁.setTop (mkF m 30 #[.val (.ref o0), .val (.int (0 : Int32)), .val (.ref o2), .val (.int (0 : Int32)), .val (.int (1 : Int32)), .val (.int (0 : Int32)), .val (.int c0)] [(.int c0), (.int (0 : Int32)), (.ref o2)]))
  refine own_st (fun _ => XS.i2b X0.here hx rfl (hb hby own_dcp1_30) rfl) ?_
  show own_End p e below P (s₁.setTop (mkF m 31 #[.val (.ref o0), .val (.int (0 : Int32)), .val (.ref o2), .val (.int (0 : Int32)), .val (.int (1 : Int32)), .val (.int (0 : Int32)), .val (.int c0)] [(.int (c0.toInt8.toInt32)), (.int (0 : Int32)), (.ref o2)]))
  refine own_bastore X0 hx hZ e0 A_o2 (j := (0 : Int32)) (v := (c0.toInt8.toInt32)) (i := 0) (by decide) (by show (0 : Nat) < 1; decide) (g := (mkF m 31 #[.val (.ref o0), .val (.int (0 : Int32)), .val (.ref o2), .val (.int (0 : Int32)), .val (.int (1 : Int32)), .val (.int (0 : Int32)), .val (.int c0)] [(.int (c0.toInt8.toInt32)), (.int (0 : Int32)), (.ref o2)])) rfl rfl (hb hby own_dcp1_31) (fun T1 h1 X1 e1 W1 B1 => ?_)
  have A1 : own_BA Z h1 o2 [(nar .byte (c0.toInt8.toInt32))] := B1
  have N1 := Fr.snoc X1 N0 low_o2
  have K1 := Keep.wr K0 W1 (Or.inl (List.mem_of_getElem? (i := 0) rfl))
  show own_End p e below P (T1.setTop (mkF m 32 #[.val (.ref o0), .val (.int (0 : Int32)), .val (.ref o2), .val (.int (0 : Int32)), .val (.int (1 : Int32)), .val (.int (0 : Int32)), .val (.int c0)] []))
  refine own_st (fun _ => XS.iinc X1.here hx rfl (hb hby own_dcp1_32) rfl (l' := #[.val (.ref o0), .val (.int (1 : Int32)), .val (.ref o2), .val (.int (0 : Int32)), .val (.int (1 : Int32)), .val (.int (0 : Int32)), .val (.int c0)]) rfl) ?_
  show own_End p e below P (T1.setTop (mkF m 35 #[.val (.ref o0), .val (.int (1 : Int32)), .val (.ref o2), .val (.int (0 : Int32)), .val (.int (1 : Int32)), .val (.int (0 : Int32)), .val (.int c0)] []))
  refine own_st (fun _ => XS.iinc X1.here hx rfl (hb hby own_dcp1_35) rfl (l' := #[.val (.ref o0), .val (.int (1 : Int32)), .val (.ref o2), .val (.int (1 : Int32)), .val (.int (1 : Int32)), .val (.int (0 : Int32)), .val (.int c0)]) rfl) ?_
  show own_End p e below P (T1.setTop (mkF m 38 #[.val (.ref o0), .val (.int (1 : Int32)), .val (.ref o2), .val (.int (1 : Int32)), .val (.int (1 : Int32)), .val (.int (0 : Int32)), .val (.int c0)] []))
  refine own_st (fun _ => XS.iinc X1.here hx rfl (hb hby own_dcp1_38) rfl (l' := #[.val (.ref o0), .val (.int (1 : Int32)), .val (.ref o2), .val (.int (1 : Int32)), .val (.int (1 : Int32)), .val (.int (1 : Int32)), .val (.int c0)]) rfl) ?_
  show own_End p e below P (T1.setTop (mkF m 41 #[.val (.ref o0), .val (.int (1 : Int32)), .val (.ref o2), .val (.int (1 : Int32)), .val (.int (1 : Int32)), .val (.int (1 : Int32)), .val (.int c0)] []))
  refine own_st (fun _ => XS.goto X1.here hx rfl (pc0 := 41) (pc' := 3) rfl (hb hby own_dcp1_41) (by decide) (by decide)) ?_
  show own_End p e below P (T1.setTop (mkF m 3 #[.val (.ref o0), .val (.int (1 : Int32)), .val (.ref o2), .val (.int (1 : Int32)), .val (.int (1 : Int32)), .val (.int (1 : Int32)), .val (.int c0)] []))
  refine own_st (fun _ => XS.iload X1.here hx rfl (hb hby own_dcp1_3) rfl) ?_
  show own_End p e below P (T1.setTop (mkF m 5 #[.val (.ref o0), .val (.int (1 : Int32)), .val (.ref o2), .val (.int (1 : Int32)), .val (.int (1 : Int32)), .val (.int (1 : Int32)), .val (.int c0)] [(.int (1 : Int32))]))
  refine own_st (fun _ => XS.iload X1.here hx rfl (hb hby own_dcp1_5) rfl) ?_
  show own_End p e below P (T1.setTop (mkF m 7 #[.val (.ref o0), .val (.int (1 : Int32)), .val (.ref o2), .val (.int (1 : Int32)), .val (.int (1 : Int32)), .val (.int (1 : Int32)), .val (.int c0)] [(.int (1 : Int32)), (.int (1 : Int32))]))
  refine own_st (fun _ => XS.icmpYes X1.here hx rfl (pc0 := 7) (pc' := 44) rfl (hb hby own_dcp1_7) rfl (flt (by decide : ¬ ((1 : Int32) < (1 : Int32)))).2.1 (by decide) (by decide)) ?_
  show own_End p e below P (T1.setTop (mkF m 44 #[.val (.ref o0), .val (.int (1 : Int32)), .val (.ref o2), .val (.int (1 : Int32)), .val (.int (1 : Int32)), .val (.int (1 : Int32)), .val (.int c0)] []))
  refine own_st (fun _ => XS.iload X1.here hx rfl (hb hby own_dcp1_44) rfl) ?_
  show own_End p e below P (T1.setTop (mkF m 46 #[.val (.ref o0), .val (.int (1 : Int32)), .val (.ref o2), .val (.int (1 : Int32)), .val (.int (1 : Int32)), .val (.int (1 : Int32)), .val (.int c0)] [(.int (1 : Int32))]))
  have hfin : ((fun (v : Option Value) (h : Heap) (L : List Loc) => v = some (.int (1 : Int32)) ∧ Fr n0 L ∧ Keep h0 h [o2] ∧ own_BA Z h o2 [(nar .byte (c0.toInt8.toInt32))])) (some (.int (1 : Int32))) h1 _ := ⟨rfl, N1, K1, A1⟩
  refine own_retI X1 hx hlk hP hrt (hb hby own_dcp1_46) (by decide) (by decide) ?_
  rw [e1]; exact hfin
theorem own_dcp2_0 : decode jdk_52_method_21_code 0 = .ok (.iconst 0, 1) := by decide +kernel
theorem own_dcp2_1 : decode jdk_52_method_21_code 1 = .ok (.istore 5, 2) := by decide +kernel
theorem own_dcp2_3 : decode jdk_52_method_21_code 3 = .ok (.iload 5, 2) := by decide +kernel
theorem own_dcp2_5 : decode jdk_52_method_21_code 5 = .ok (.iload 4, 2) := by decide +kernel
theorem own_dcp2_7 : decode jdk_52_method_21_code 7 = .ok (.if_icmp .ge 37, 3) := by decide +kernel
theorem own_dcp2_10 : decode jdk_52_method_21_code 10 = .ok (.aload_n 0, 1) := by decide +kernel
theorem own_dcp2_11 : decode jdk_52_method_21_code 11 = .ok (.iload_n 1, 1) := by decide +kernel
theorem own_dcp2_12 : decode jdk_52_method_21_code 12 = .ok (.caload, 1) := by decide +kernel
theorem own_dcp2_13 : decode jdk_52_method_21_code 13 = .ok (.istore 6, 2) := by decide +kernel
theorem own_dcp2_15 : decode jdk_52_method_21_code 15 = .ok (.iload 6, 2) := by decide +kernel
theorem own_dcp2_17 : decode jdk_52_method_21_code 17 = .ok (.sipush 255, 3) := by decide +kernel
theorem own_dcp2_20 : decode jdk_52_method_21_code 20 = .ok (.if_icmp .le 6, 3) := by decide +kernel
theorem own_dcp2_26 : decode jdk_52_method_21_code 26 = .ok (.aload_n 2, 1) := by decide +kernel
theorem own_dcp2_27 : decode jdk_52_method_21_code 27 = .ok (.iload_n 3, 1) := by decide +kernel
theorem own_dcp2_28 : decode jdk_52_method_21_code 28 = .ok (.iload 6, 2) := by decide +kernel
theorem own_dcp2_30 : decode jdk_52_method_21_code 30 = .ok (.i2b, 1) := by decide +kernel
theorem own_dcp2_31 : decode jdk_52_method_21_code 31 = .ok (.bastore, 1) := by decide +kernel
theorem own_dcp2_32 : decode jdk_52_method_21_code 32 = .ok (.iinc 1 1, 3) := by decide +kernel
theorem own_dcp2_35 : decode jdk_52_method_21_code 35 = .ok (.iinc 3 1, 3) := by decide +kernel
theorem own_dcp2_38 : decode jdk_52_method_21_code 38 = .ok (.iinc 5 1, 3) := by decide +kernel
theorem own_dcp2_41 : decode jdk_52_method_21_code 41 = .ok (.goto (-38), 3) := by decide +kernel
theorem own_dcp2_44 : decode jdk_52_method_21_code 44 = .ok (.iload 4, 2) := by decide +kernel
theorem own_dcp2_46 : decode jdk_52_method_21_code 46 = .ok (.ireturn, 1) := by decide +kernel
theorem own_efcp2 (m : MethodId) (o0 : Addr) (o2 : Addr) : entryFrame m #[(.ref o0), (.int (0 : Int32)), (.ref o2), (.int (0 : Int32)), (.int (2 : Int32))] 7 = mkF m 0 #[.val (.ref o0), .val (.int (0 : Int32)), .val (.ref o2), .val (.int (0 : Int32)), .val (.int (2 : Int32)), .unset, .unset] [] := by first | (simp [entryFrame, mkF, argsToLocals, Value.category]; done) | rfl
set_option maxRecDepth 65536 in
set_option maxHeartbeats 40000000 in
theorem own_mcp2 (l : Launch) (Z : State) (a0 : Array Value) (hw : ∀ d ∈ tables_1, d.before a0 Z = true) (ws : List Jvm.Cond) (o0 : Addr) (o2 : Addr) (c0 : Int32) (c1 : Int32) (h0 : Heap) (n0 : Nat) (Z0 : n0 ≤ h0.size) (A_o0 : own_CA Z h0 o0 [c0, c1]) (A_o2 : own_BA Z h0 o2 [(0 : Int32), (0 : Int32)]) (low_o2 : n0 ≤ o2) (ne_o0_o2 : o0 ≠ o2) (hi0 : ¬ ((255 : Int32) < c0)) (hi1 : ¬ ((255 : Int32) < c1)) :
    own_Met l Z (⟨"java/lang/StringUTF16", "compress", "([CI[BII)I"⟩ : MethodName) jdk_52_method_21_code 7 (some .int) ws ({ frames := 0, cells := 0, slots := 0, locals := 0 } : Room) #[(.ref o0), (.int (0 : Int32)), (.ref o2), (.int (0 : Int32)), (.int (2 : Int32))] h0 (fun (v : Option Value) (h : Heap) (L : List Loc) => v = some (.int (2 : Int32)) ∧ Fr n0 L ∧ Keep h0 h [o2] ∧ own_BA Z h o2 [(nar .byte (c0.toInt8.toInt32)), (nar .byte (c1.toInt8.toInt32))]) := by
  refine own_enter (plainFor_of_name own_pn_java_lang_StringUTF16) ?_
  intro p e s m below meth c s₁ P hx hby hml hrt hlk hown hnm hZ X0 e0 hP
  have N0 := Fr.nil n0
  have K0 := Keep.refl h0 [o2]
  have hml' : c.maxLocals = 7 := hml
  refine own_cast (own_efcp2 m o0 o2) ?_
  show own_End p e below P (s₁.setTop (mkF m 0 #[.val (.ref o0), .val (.int (0 : Int32)), .val (.ref o2), .val (.int (0 : Int32)), .val (.int (2 : Int32)), .unset, .unset] []))
  refine own_st (fun _ => XS.iconst X0.here hx rfl (hb hby own_dcp2_0)) ?_
  show own_End p e below P (s₁.setTop (mkF m 1 #[.val (.ref o0), .val (.int (0 : Int32)), .val (.ref o2), .val (.int (0 : Int32)), .val (.int (2 : Int32)), .unset, .unset] [(.int (0 : Int32))]))
  refine own_st (fun _ => XS.istore X0.here hx rfl (hb hby own_dcp2_1) rfl (l' := #[.val (.ref o0), .val (.int (0 : Int32)), .val (.ref o2), .val (.int (0 : Int32)), .val (.int (2 : Int32)), .val (.int (0 : Int32)), .unset]) rfl) ?_
  show own_End p e below P (s₁.setTop (mkF m 3 #[.val (.ref o0), .val (.int (0 : Int32)), .val (.ref o2), .val (.int (0 : Int32)), .val (.int (2 : Int32)), .val (.int (0 : Int32)), .unset] []))
  refine own_st (fun _ => XS.iload X0.here hx rfl (hb hby own_dcp2_3) rfl) ?_
  show own_End p e below P (s₁.setTop (mkF m 5 #[.val (.ref o0), .val (.int (0 : Int32)), .val (.ref o2), .val (.int (0 : Int32)), .val (.int (2 : Int32)), .val (.int (0 : Int32)), .unset] [(.int (0 : Int32))]))
  refine own_st (fun _ => XS.iload X0.here hx rfl (hb hby own_dcp2_5) rfl) ?_
  show own_End p e below P (s₁.setTop (mkF m 7 #[.val (.ref o0), .val (.int (0 : Int32)), .val (.ref o2), .val (.int (0 : Int32)), .val (.int (2 : Int32)), .val (.int (0 : Int32)), .unset] [(.int (2 : Int32)), (.int (0 : Int32))]))
  refine own_st (fun _ => XS.icmpNo X0.here hx rfl (hb hby own_dcp2_7) rfl (tlt (by decide : (0 : Int32) < (2 : Int32))).2.1) ?_
  show own_End p e below P (s₁.setTop (mkF m 10 #[.val (.ref o0), .val (.int (0 : Int32)), .val (.ref o2), .val (.int (0 : Int32)), .val (.int (2 : Int32)), .val (.int (0 : Int32)), .unset] []))
  refine own_st (fun _ => XS.aloadN X0.here hx rfl (hb hby own_dcp2_10) rfl rfl) ?_
  show own_End p e below P (s₁.setTop (mkF m 11 #[.val (.ref o0), .val (.int (0 : Int32)), .val (.ref o2), .val (.int (0 : Int32)), .val (.int (2 : Int32)), .val (.int (0 : Int32)), .unset] [(.ref o0)]))
  refine own_st (fun _ => XS.iloadN X0.here hx rfl (hb hby own_dcp2_11) rfl) ?_
  show own_End p e below P (s₁.setTop (mkF m 12 #[.val (.ref o0), .val (.int (0 : Int32)), .val (.ref o2), .val (.int (0 : Int32)), .val (.int (2 : Int32)), .val (.int (0 : Int32)), .unset] [(.int (0 : Int32)), (.ref o0)]))
  refine own_caload X0 hx hZ e0 A_o0 (j := (0 : Int32)) (v := c0) (i := 0) (by decide) rfl (g := (mkF m 12 #[.val (.ref o0), .val (.int (0 : Int32)), .val (.ref o2), .val (.int (0 : Int32)), .val (.int (2 : Int32)), .val (.int (0 : Int32)), .unset] [(.int (0 : Int32)), (.ref o0)])) rfl rfl (hb hby own_dcp2_12) ?_
  show own_End p e below P (s₁.setTop (mkF m 13 #[.val (.ref o0), .val (.int (0 : Int32)), .val (.ref o2), .val (.int (0 : Int32)), .val (.int (2 : Int32)), .val (.int (0 : Int32)), .unset] [(.int c0)]))
  refine own_st (fun _ => XS.istore X0.here hx rfl (hb hby own_dcp2_13) rfl (l' := #[.val (.ref o0), .val (.int (0 : Int32)), .val (.ref o2), .val (.int (0 : Int32)), .val (.int (2 : Int32)), .val (.int (0 : Int32)), .val (.int c0)]) rfl) ?_
  show own_End p e below P (s₁.setTop (mkF m 15 #[.val (.ref o0), .val (.int (0 : Int32)), .val (.ref o2), .val (.int (0 : Int32)), .val (.int (2 : Int32)), .val (.int (0 : Int32)), .val (.int c0)] []))
  refine own_st (fun _ => XS.iload X0.here hx rfl (hb hby own_dcp2_15) rfl) ?_
  show own_End p e below P (s₁.setTop (mkF m 17 #[.val (.ref o0), .val (.int (0 : Int32)), .val (.ref o2), .val (.int (0 : Int32)), .val (.int (2 : Int32)), .val (.int (0 : Int32)), .val (.int c0)] [(.int c0)]))
  refine own_st (fun _ => XS.sipush X0.here hx rfl (hb hby own_dcp2_17)) ?_
  show own_End p e below P (s₁.setTop (mkF m 20 #[.val (.ref o0), .val (.int (0 : Int32)), .val (.ref o2), .val (.int (0 : Int32)), .val (.int (2 : Int32)), .val (.int (0 : Int32)), .val (.int c0)] [(.int (255 : Int32)), (.int c0)]))
  refine own_st (fun _ => XS.icmpYes X0.here hx rfl (pc0 := 20) (pc' := 26) rfl (hb hby own_dcp2_20) rfl (flt hi0).2.2.2 (by decide) (by decide)) ?_
  show own_End p e below P (s₁.setTop (mkF m 26 #[.val (.ref o0), .val (.int (0 : Int32)), .val (.ref o2), .val (.int (0 : Int32)), .val (.int (2 : Int32)), .val (.int (0 : Int32)), .val (.int c0)] []))
  refine own_st (fun _ => XS.aloadN X0.here hx rfl (hb hby own_dcp2_26) rfl rfl) ?_
  show own_End p e below P (s₁.setTop (mkF m 27 #[.val (.ref o0), .val (.int (0 : Int32)), .val (.ref o2), .val (.int (0 : Int32)), .val (.int (2 : Int32)), .val (.int (0 : Int32)), .val (.int c0)] [(.ref o2)]))
  refine own_st (fun _ => XS.iloadN X0.here hx rfl (hb hby own_dcp2_27) rfl) ?_
  show own_End p e below P (s₁.setTop (mkF m 28 #[.val (.ref o0), .val (.int (0 : Int32)), .val (.ref o2), .val (.int (0 : Int32)), .val (.int (2 : Int32)), .val (.int (0 : Int32)), .val (.int c0)] [(.int (0 : Int32)), (.ref o2)]))
  refine own_st (fun _ => XS.iload X0.here hx rfl (hb hby own_dcp2_28) rfl) ?_
  show own_End p e below P (s₁.setTop (mkF m 30 #[.val (.ref o0), .val (.int (0 : Int32)), .val (.ref o2), .val (.int (0 : Int32)), .val (.int (2 : Int32)), .val (.int (0 : Int32)), .val (.int c0)] [(.int c0), (.int (0 : Int32)), (.ref o2)]))
  refine own_st (fun _ => XS.i2b X0.here hx rfl (hb hby own_dcp2_30) rfl) ?_
  show own_End p e below P (s₁.setTop (mkF m 31 #[.val (.ref o0), .val (.int (0 : Int32)), .val (.ref o2), .val (.int (0 : Int32)), .val (.int (2 : Int32)), .val (.int (0 : Int32)), .val (.int c0)] [(.int (c0.toInt8.toInt32)), (.int (0 : Int32)), (.ref o2)]))
  refine own_bastore X0 hx hZ e0 A_o2 (j := (0 : Int32)) (v := (c0.toInt8.toInt32)) (i := 0) (by decide) (by show (0 : Nat) < 2; decide) (g := (mkF m 31 #[.val (.ref o0), .val (.int (0 : Int32)), .val (.ref o2), .val (.int (0 : Int32)), .val (.int (2 : Int32)), .val (.int (0 : Int32)), .val (.int c0)] [(.int (c0.toInt8.toInt32)), (.int (0 : Int32)), (.ref o2)])) rfl rfl (hb hby own_dcp2_31) (fun T1 h1 X1 e1 W1 B1 => ?_)
  have A1 : own_BA Z h1 o2 [(nar .byte (c0.toInt8.toInt32)), (0 : Int32)] := B1
  have N1 := Fr.snoc X1 N0 low_o2
  have K1 := Keep.wr K0 W1 (Or.inl (List.mem_of_getElem? (i := 0) rfl))
  show own_End p e below P (T1.setTop (mkF m 32 #[.val (.ref o0), .val (.int (0 : Int32)), .val (.ref o2), .val (.int (0 : Int32)), .val (.int (2 : Int32)), .val (.int (0 : Int32)), .val (.int c0)] []))
  refine own_st (fun _ => XS.iinc X1.here hx rfl (hb hby own_dcp2_32) rfl (l' := #[.val (.ref o0), .val (.int (1 : Int32)), .val (.ref o2), .val (.int (0 : Int32)), .val (.int (2 : Int32)), .val (.int (0 : Int32)), .val (.int c0)]) rfl) ?_
  show own_End p e below P (T1.setTop (mkF m 35 #[.val (.ref o0), .val (.int (1 : Int32)), .val (.ref o2), .val (.int (0 : Int32)), .val (.int (2 : Int32)), .val (.int (0 : Int32)), .val (.int c0)] []))
  refine own_st (fun _ => XS.iinc X1.here hx rfl (hb hby own_dcp2_35) rfl (l' := #[.val (.ref o0), .val (.int (1 : Int32)), .val (.ref o2), .val (.int (1 : Int32)), .val (.int (2 : Int32)), .val (.int (0 : Int32)), .val (.int c0)]) rfl) ?_
  show own_End p e below P (T1.setTop (mkF m 38 #[.val (.ref o0), .val (.int (1 : Int32)), .val (.ref o2), .val (.int (1 : Int32)), .val (.int (2 : Int32)), .val (.int (0 : Int32)), .val (.int c0)] []))
  refine own_st (fun _ => XS.iinc X1.here hx rfl (hb hby own_dcp2_38) rfl (l' := #[.val (.ref o0), .val (.int (1 : Int32)), .val (.ref o2), .val (.int (1 : Int32)), .val (.int (2 : Int32)), .val (.int (1 : Int32)), .val (.int c0)]) rfl) ?_
  show own_End p e below P (T1.setTop (mkF m 41 #[.val (.ref o0), .val (.int (1 : Int32)), .val (.ref o2), .val (.int (1 : Int32)), .val (.int (2 : Int32)), .val (.int (1 : Int32)), .val (.int c0)] []))
  refine own_st (fun _ => XS.goto X1.here hx rfl (pc0 := 41) (pc' := 3) rfl (hb hby own_dcp2_41) (by decide) (by decide)) ?_
  show own_End p e below P (T1.setTop (mkF m 3 #[.val (.ref o0), .val (.int (1 : Int32)), .val (.ref o2), .val (.int (1 : Int32)), .val (.int (2 : Int32)), .val (.int (1 : Int32)), .val (.int c0)] []))
  refine own_st (fun _ => XS.iload X1.here hx rfl (hb hby own_dcp2_3) rfl) ?_
  show own_End p e below P (T1.setTop (mkF m 5 #[.val (.ref o0), .val (.int (1 : Int32)), .val (.ref o2), .val (.int (1 : Int32)), .val (.int (2 : Int32)), .val (.int (1 : Int32)), .val (.int c0)] [(.int (1 : Int32))]))
  refine own_st (fun _ => XS.iload X1.here hx rfl (hb hby own_dcp2_5) rfl) ?_
  show own_End p e below P (T1.setTop (mkF m 7 #[.val (.ref o0), .val (.int (1 : Int32)), .val (.ref o2), .val (.int (1 : Int32)), .val (.int (2 : Int32)), .val (.int (1 : Int32)), .val (.int c0)] [(.int (2 : Int32)), (.int (1 : Int32))]))
  refine own_st (fun _ => XS.icmpNo X1.here hx rfl (hb hby own_dcp2_7) rfl (tlt (by decide : (1 : Int32) < (2 : Int32))).2.1) ?_
  show own_End p e below P (T1.setTop (mkF m 10 #[.val (.ref o0), .val (.int (1 : Int32)), .val (.ref o2), .val (.int (1 : Int32)), .val (.int (2 : Int32)), .val (.int (1 : Int32)), .val (.int c0)] []))
  refine own_st (fun _ => XS.aloadN X1.here hx rfl (hb hby own_dcp2_10) rfl rfl) ?_
  show own_End p e below P (T1.setTop (mkF m 11 #[.val (.ref o0), .val (.int (1 : Int32)), .val (.ref o2), .val (.int (1 : Int32)), .val (.int (2 : Int32)), .val (.int (1 : Int32)), .val (.int c0)] [(.ref o0)]))
  refine own_st (fun _ => XS.iloadN X1.here hx rfl (hb hby own_dcp2_11) rfl) ?_
  show own_End p e below P (T1.setTop (mkF m 12 #[.val (.ref o0), .val (.int (1 : Int32)), .val (.ref o2), .val (.int (1 : Int32)), .val (.int (2 : Int32)), .val (.int (1 : Int32)), .val (.int c0)] [(.int (1 : Int32)), (.ref o0)]))
  have G2 := (A_o0.other W1 ne_o0_o2)
  refine own_caload X1 hx hZ e1 G2 (j := (1 : Int32)) (v := c1) (i := 1) (by decide) rfl (g := (mkF m 12 #[.val (.ref o0), .val (.int (1 : Int32)), .val (.ref o2), .val (.int (1 : Int32)), .val (.int (2 : Int32)), .val (.int (1 : Int32)), .val (.int c0)] [(.int (1 : Int32)), (.ref o0)])) rfl rfl (hb hby own_dcp2_12) ?_
  show own_End p e below P (T1.setTop (mkF m 13 #[.val (.ref o0), .val (.int (1 : Int32)), .val (.ref o2), .val (.int (1 : Int32)), .val (.int (2 : Int32)), .val (.int (1 : Int32)), .val (.int c0)] [(.int c1)]))
  refine own_st (fun _ => XS.istore X1.here hx rfl (hb hby own_dcp2_13) rfl (l' := #[.val (.ref o0), .val (.int (1 : Int32)), .val (.ref o2), .val (.int (1 : Int32)), .val (.int (2 : Int32)), .val (.int (1 : Int32)), .val (.int c1)]) rfl) ?_
  show own_End p e below P (T1.setTop (mkF m 15 #[.val (.ref o0), .val (.int (1 : Int32)), .val (.ref o2), .val (.int (1 : Int32)), .val (.int (2 : Int32)), .val (.int (1 : Int32)), .val (.int c1)] []))
  refine own_st (fun _ => XS.iload X1.here hx rfl (hb hby own_dcp2_15) rfl) ?_
  show own_End p e below P (T1.setTop (mkF m 17 #[.val (.ref o0), .val (.int (1 : Int32)), .val (.ref o2), .val (.int (1 : Int32)), .val (.int (2 : Int32)), .val (.int (1 : Int32)), .val (.int c1)] [(.int c1)]))
  refine own_st (fun _ => XS.sipush X1.here hx rfl (hb hby own_dcp2_17)) ?_
  show own_End p e below P (T1.setTop (mkF m 20 #[.val (.ref o0), .val (.int (1 : Int32)), .val (.ref o2), .val (.int (1 : Int32)), .val (.int (2 : Int32)), .val (.int (1 : Int32)), .val (.int c1)] [(.int (255 : Int32)), (.int c1)]))
  refine own_st (fun _ => XS.icmpYes X1.here hx rfl (pc0 := 20) (pc' := 26) rfl (hb hby own_dcp2_20) rfl (flt hi1).2.2.2 (by decide) (by decide)) ?_
  show own_End p e below P (T1.setTop (mkF m 26 #[.val (.ref o0), .val (.int (1 : Int32)), .val (.ref o2), .val (.int (1 : Int32)), .val (.int (2 : Int32)), .val (.int (1 : Int32)), .val (.int c1)] []))
  refine own_st (fun _ => XS.aloadN X1.here hx rfl (hb hby own_dcp2_26) rfl rfl) ?_
  show own_End p e below P (T1.setTop (mkF m 27 #[.val (.ref o0), .val (.int (1 : Int32)), .val (.ref o2), .val (.int (1 : Int32)), .val (.int (2 : Int32)), .val (.int (1 : Int32)), .val (.int c1)] [(.ref o2)]))
  refine own_st (fun _ => XS.iloadN X1.here hx rfl (hb hby own_dcp2_27) rfl) ?_
  show own_End p e below P (T1.setTop (mkF m 28 #[.val (.ref o0), .val (.int (1 : Int32)), .val (.ref o2), .val (.int (1 : Int32)), .val (.int (2 : Int32)), .val (.int (1 : Int32)), .val (.int c1)] [(.int (1 : Int32)), (.ref o2)]))
  refine own_st (fun _ => XS.iload X1.here hx rfl (hb hby own_dcp2_28) rfl) ?_
  show own_End p e below P (T1.setTop (mkF m 30 #[.val (.ref o0), .val (.int (1 : Int32)), .val (.ref o2), .val (.int (1 : Int32)), .val (.int (2 : Int32)), .val (.int (1 : Int32)), .val (.int c1)] [(.int c1), (.int (1 : Int32)), (.ref o2)]))
  refine own_st (fun _ => XS.i2b X1.here hx rfl (hb hby own_dcp2_30) rfl) ?_
  show own_End p e below P (T1.setTop (mkF m 31 #[.val (.ref o0), .val (.int (1 : Int32)), .val (.ref o2), .val (.int (1 : Int32)), .val (.int (2 : Int32)), .val (.int (1 : Int32)), .val (.int c1)] [(.int (c1.toInt8.toInt32)), (.int (1 : Int32)), (.ref o2)]))
  refine own_bastore X1 hx hZ e1 A1 (j := (1 : Int32)) (v := (c1.toInt8.toInt32)) (i := 1) (by decide) (by show (1 : Nat) < 2; decide) (g := (mkF m 31 #[.val (.ref o0), .val (.int (1 : Int32)), .val (.ref o2), .val (.int (1 : Int32)), .val (.int (2 : Int32)), .val (.int (1 : Int32)), .val (.int c1)] [(.int (c1.toInt8.toInt32)), (.int (1 : Int32)), (.ref o2)])) rfl rfl (hb hby own_dcp2_31) (fun T3 h3 X3 e3 W3 B3 => ?_)
  have A3 : own_BA Z h3 o2 [(nar .byte (c0.toInt8.toInt32)), (nar .byte (c1.toInt8.toInt32))] := B3
  have N3 := Fr.snoc X3 N1 low_o2
  have K3 := Keep.wr K1 W3 (Or.inl (List.mem_of_getElem? (i := 0) rfl))
  show own_End p e below P (T3.setTop (mkF m 32 #[.val (.ref o0), .val (.int (1 : Int32)), .val (.ref o2), .val (.int (1 : Int32)), .val (.int (2 : Int32)), .val (.int (1 : Int32)), .val (.int c1)] []))
  refine own_st (fun _ => XS.iinc X3.here hx rfl (hb hby own_dcp2_32) rfl (l' := #[.val (.ref o0), .val (.int (2 : Int32)), .val (.ref o2), .val (.int (1 : Int32)), .val (.int (2 : Int32)), .val (.int (1 : Int32)), .val (.int c1)]) rfl) ?_
  show own_End p e below P (T3.setTop (mkF m 35 #[.val (.ref o0), .val (.int (2 : Int32)), .val (.ref o2), .val (.int (1 : Int32)), .val (.int (2 : Int32)), .val (.int (1 : Int32)), .val (.int c1)] []))
  refine own_st (fun _ => XS.iinc X3.here hx rfl (hb hby own_dcp2_35) rfl (l' := #[.val (.ref o0), .val (.int (2 : Int32)), .val (.ref o2), .val (.int (2 : Int32)), .val (.int (2 : Int32)), .val (.int (1 : Int32)), .val (.int c1)]) rfl) ?_
  show own_End p e below P (T3.setTop (mkF m 38 #[.val (.ref o0), .val (.int (2 : Int32)), .val (.ref o2), .val (.int (2 : Int32)), .val (.int (2 : Int32)), .val (.int (1 : Int32)), .val (.int c1)] []))
  refine own_st (fun _ => XS.iinc X3.here hx rfl (hb hby own_dcp2_38) rfl (l' := #[.val (.ref o0), .val (.int (2 : Int32)), .val (.ref o2), .val (.int (2 : Int32)), .val (.int (2 : Int32)), .val (.int (2 : Int32)), .val (.int c1)]) rfl) ?_
  show own_End p e below P (T3.setTop (mkF m 41 #[.val (.ref o0), .val (.int (2 : Int32)), .val (.ref o2), .val (.int (2 : Int32)), .val (.int (2 : Int32)), .val (.int (2 : Int32)), .val (.int c1)] []))
  refine own_st (fun _ => XS.goto X3.here hx rfl (pc0 := 41) (pc' := 3) rfl (hb hby own_dcp2_41) (by decide) (by decide)) ?_
  show own_End p e below P (T3.setTop (mkF m 3 #[.val (.ref o0), .val (.int (2 : Int32)), .val (.ref o2), .val (.int (2 : Int32)), .val (.int (2 : Int32)), .val (.int (2 : Int32)), .val (.int c1)] []))
  refine own_st (fun _ => XS.iload X3.here hx rfl (hb hby own_dcp2_3) rfl) ?_
  show own_End p e below P (T3.setTop (mkF m 5 #[.val (.ref o0), .val (.int (2 : Int32)), .val (.ref o2), .val (.int (2 : Int32)), .val (.int (2 : Int32)), .val (.int (2 : Int32)), .val (.int c1)] [(.int (2 : Int32))]))
  refine own_st (fun _ => XS.iload X3.here hx rfl (hb hby own_dcp2_5) rfl) ?_
  show own_End p e below P (T3.setTop (mkF m 7 #[.val (.ref o0), .val (.int (2 : Int32)), .val (.ref o2), .val (.int (2 : Int32)), .val (.int (2 : Int32)), .val (.int (2 : Int32)), .val (.int c1)] [(.int (2 : Int32)), (.int (2 : Int32))]))
  refine own_st (fun _ => XS.icmpYes X3.here hx rfl (pc0 := 7) (pc' := 44) rfl (hb hby own_dcp2_7) rfl (flt (by decide : ¬ ((2 : Int32) < (2 : Int32)))).2.1 (by decide) (by decide)) ?_
  show own_End p e below P (T3.setTop (mkF m 44 #[.val (.ref o0), .val (.int (2 : Int32)), .val (.ref o2), .val (.int (2 : Int32)), .val (.int (2 : Int32)), .val (.int (2 : Int32)), .val (.int c1)] []))
  refine own_st (fun _ => XS.iload X3.here hx rfl (hb hby own_dcp2_44) rfl) ?_
  show own_End p e below P (T3.setTop (mkF m 46 #[.val (.ref o0), .val (.int (2 : Int32)), .val (.ref o2), .val (.int (2 : Int32)), .val (.int (2 : Int32)), .val (.int (2 : Int32)), .val (.int c1)] [(.int (2 : Int32))]))
  have hfin : ((fun (v : Option Value) (h : Heap) (L : List Loc) => v = some (.int (2 : Int32)) ∧ Fr n0 L ∧ Keep h0 h [o2] ∧ own_BA Z h o2 [(nar .byte (c0.toInt8.toInt32)), (nar .byte (c1.toInt8.toInt32))])) (some (.int (2 : Int32))) h3 _ := ⟨rfl, N3, K3, A3⟩
  refine own_retI X3 hx hlk hP hrt (hb hby own_dcp2_46) (by decide) (by decide) ?_
  rw [e3]; exact hfin
theorem own_dcp3_0 : decode jdk_52_method_21_code 0 = .ok (.iconst 0, 1) := by decide +kernel
theorem own_dcp3_1 : decode jdk_52_method_21_code 1 = .ok (.istore 5, 2) := by decide +kernel
theorem own_dcp3_3 : decode jdk_52_method_21_code 3 = .ok (.iload 5, 2) := by decide +kernel
theorem own_dcp3_5 : decode jdk_52_method_21_code 5 = .ok (.iload 4, 2) := by decide +kernel
theorem own_dcp3_7 : decode jdk_52_method_21_code 7 = .ok (.if_icmp .ge 37, 3) := by decide +kernel
theorem own_dcp3_10 : decode jdk_52_method_21_code 10 = .ok (.aload_n 0, 1) := by decide +kernel
theorem own_dcp3_11 : decode jdk_52_method_21_code 11 = .ok (.iload_n 1, 1) := by decide +kernel
theorem own_dcp3_12 : decode jdk_52_method_21_code 12 = .ok (.caload, 1) := by decide +kernel
theorem own_dcp3_13 : decode jdk_52_method_21_code 13 = .ok (.istore 6, 2) := by decide +kernel
theorem own_dcp3_15 : decode jdk_52_method_21_code 15 = .ok (.iload 6, 2) := by decide +kernel
theorem own_dcp3_17 : decode jdk_52_method_21_code 17 = .ok (.sipush 255, 3) := by decide +kernel
theorem own_dcp3_20 : decode jdk_52_method_21_code 20 = .ok (.if_icmp .le 6, 3) := by decide +kernel
theorem own_dcp3_26 : decode jdk_52_method_21_code 26 = .ok (.aload_n 2, 1) := by decide +kernel
theorem own_dcp3_27 : decode jdk_52_method_21_code 27 = .ok (.iload_n 3, 1) := by decide +kernel
theorem own_dcp3_28 : decode jdk_52_method_21_code 28 = .ok (.iload 6, 2) := by decide +kernel
theorem own_dcp3_30 : decode jdk_52_method_21_code 30 = .ok (.i2b, 1) := by decide +kernel
theorem own_dcp3_31 : decode jdk_52_method_21_code 31 = .ok (.bastore, 1) := by decide +kernel
theorem own_dcp3_32 : decode jdk_52_method_21_code 32 = .ok (.iinc 1 1, 3) := by decide +kernel
theorem own_dcp3_35 : decode jdk_52_method_21_code 35 = .ok (.iinc 3 1, 3) := by decide +kernel
theorem own_dcp3_38 : decode jdk_52_method_21_code 38 = .ok (.iinc 5 1, 3) := by decide +kernel
theorem own_dcp3_41 : decode jdk_52_method_21_code 41 = .ok (.goto (-38), 3) := by decide +kernel
theorem own_dcp3_44 : decode jdk_52_method_21_code 44 = .ok (.iload 4, 2) := by decide +kernel
theorem own_dcp3_46 : decode jdk_52_method_21_code 46 = .ok (.ireturn, 1) := by decide +kernel
theorem own_efcp3 (m : MethodId) (o0 : Addr) (o2 : Addr) : entryFrame m #[(.ref o0), (.int (0 : Int32)), (.ref o2), (.int (0 : Int32)), (.int (3 : Int32))] 7 = mkF m 0 #[.val (.ref o0), .val (.int (0 : Int32)), .val (.ref o2), .val (.int (0 : Int32)), .val (.int (3 : Int32)), .unset, .unset] [] := by first | (simp [entryFrame, mkF, argsToLocals, Value.category]; done) | rfl
set_option maxRecDepth 65536 in
set_option maxHeartbeats 40000000 in
theorem own_mcp3 (l : Launch) (Z : State) (a0 : Array Value) (hw : ∀ d ∈ tables_1, d.before a0 Z = true) (ws : List Jvm.Cond) (o0 : Addr) (o2 : Addr) (c0 : Int32) (c1 : Int32) (c2 : Int32) (h0 : Heap) (n0 : Nat) (Z0 : n0 ≤ h0.size) (A_o0 : own_CA Z h0 o0 [c0, c1, c2]) (A_o2 : own_BA Z h0 o2 [(0 : Int32), (0 : Int32), (0 : Int32)]) (low_o2 : n0 ≤ o2) (ne_o0_o2 : o0 ≠ o2) (hi0 : ¬ ((255 : Int32) < c0)) (hi1 : ¬ ((255 : Int32) < c1)) (hi2 : ¬ ((255 : Int32) < c2)) :
    own_Met l Z (⟨"java/lang/StringUTF16", "compress", "([CI[BII)I"⟩ : MethodName) jdk_52_method_21_code 7 (some .int) ws ({ frames := 0, cells := 0, slots := 0, locals := 0 } : Room) #[(.ref o0), (.int (0 : Int32)), (.ref o2), (.int (0 : Int32)), (.int (3 : Int32))] h0 (fun (v : Option Value) (h : Heap) (L : List Loc) => v = some (.int (3 : Int32)) ∧ Fr n0 L ∧ Keep h0 h [o2] ∧ own_BA Z h o2 [(nar .byte (c0.toInt8.toInt32)), (nar .byte (c1.toInt8.toInt32)), (nar .byte (c2.toInt8.toInt32))]) := by
  refine own_enter (plainFor_of_name own_pn_java_lang_StringUTF16) ?_
  intro p e s m below meth c s₁ P hx hby hml hrt hlk hown hnm hZ X0 e0 hP
  have N0 := Fr.nil n0
  have K0 := Keep.refl h0 [o2]
  have hml' : c.maxLocals = 7 := hml
  refine own_cast (own_efcp3 m o0 o2) ?_
  show own_End p e below P (s₁.setTop (mkF m 0 #[.val (.ref o0), .val (.int (0 : Int32)), .val (.ref o2), .val (.int (0 : Int32)), .val (.int (3 : Int32)), .unset, .unset] []))
  refine own_st (fun _ => XS.iconst X0.here hx rfl (hb hby own_dcp3_0)) ?_
  show own_End p e below P (s₁.setTop (mkF m 1 #[.val (.ref o0), .val (.int (0 : Int32)), .val (.ref o2), .val (.int (0 : Int32)), .val (.int (3 : Int32)), .unset, .unset] [(.int (0 : Int32))]))
  refine own_st (fun _ => XS.istore X0.here hx rfl (hb hby own_dcp3_1) rfl (l' := #[.val (.ref o0), .val (.int (0 : Int32)), .val (.ref o2), .val (.int (0 : Int32)), .val (.int (3 : Int32)), .val (.int (0 : Int32)), .unset]) rfl) ?_
  show own_End p e below P (s₁.setTop (mkF m 3 #[.val (.ref o0), .val (.int (0 : Int32)), .val (.ref o2), .val (.int (0 : Int32)), .val (.int (3 : Int32)), .val (.int (0 : Int32)), .unset] []))
  refine own_st (fun _ => XS.iload X0.here hx rfl (hb hby own_dcp3_3) rfl) ?_
  show own_End p e below P (s₁.setTop (mkF m 5 #[.val (.ref o0), .val (.int (0 : Int32)), .val (.ref o2), .val (.int (0 : Int32)), .val (.int (3 : Int32)), .val (.int (0 : Int32)), .unset] [(.int (0 : Int32))]))
  refine own_st (fun _ => XS.iload X0.here hx rfl (hb hby own_dcp3_5) rfl) ?_
  show own_End p e below P (s₁.setTop (mkF m 7 #[.val (.ref o0), .val (.int (0 : Int32)), .val (.ref o2), .val (.int (0 : Int32)), .val (.int (3 : Int32)), .val (.int (0 : Int32)), .unset] [(.int (3 : Int32)), (.int (0 : Int32))]))
  refine own_st (fun _ => XS.icmpNo X0.here hx rfl (hb hby own_dcp3_7) rfl (tlt (by decide : (0 : Int32) < (3 : Int32))).2.1) ?_
  show own_End p e below P (s₁.setTop (mkF m 10 #[.val (.ref o0), .val (.int (0 : Int32)), .val (.ref o2), .val (.int (0 : Int32)), .val (.int (3 : Int32)), .val (.int (0 : Int32)), .unset] []))
  refine own_st (fun _ => XS.aloadN X0.here hx rfl (hb hby own_dcp3_10) rfl rfl) ?_
  show own_End p e below P (s₁.setTop (mkF m 11 #[.val (.ref o0), .val (.int (0 : Int32)), .val (.ref o2), .val (.int (0 : Int32)), .val (.int (3 : Int32)), .val (.int (0 : Int32)), .unset] [(.ref o0)]))
  refine own_st (fun _ => XS.iloadN X0.here hx rfl (hb hby own_dcp3_11) rfl) ?_
  show own_End p e below P (s₁.setTop (mkF m 12 #[.val (.ref o0), .val (.int (0 : Int32)), .val (.ref o2), .val (.int (0 : Int32)), .val (.int (3 : Int32)), .val (.int (0 : Int32)), .unset] [(.int (0 : Int32)), (.ref o0)]))
  refine own_caload X0 hx hZ e0 A_o0 (j := (0 : Int32)) (v := c0) (i := 0) (by decide) rfl (g := (mkF m 12 #[.val (.ref o0), .val (.int (0 : Int32)), .val (.ref o2), .val (.int (0 : Int32)), .val (.int (3 : Int32)), .val (.int (0 : Int32)), .unset] [(.int (0 : Int32)), (.ref o0)])) rfl rfl (hb hby own_dcp3_12) ?_
  show own_End p e below P (s₁.setTop (mkF m 13 #[.val (.ref o0), .val (.int (0 : Int32)), .val (.ref o2), .val (.int (0 : Int32)), .val (.int (3 : Int32)), .val (.int (0 : Int32)), .unset] [(.int c0)]))
  refine own_st (fun _ => XS.istore X0.here hx rfl (hb hby own_dcp3_13) rfl (l' := #[.val (.ref o0), .val (.int (0 : Int32)), .val (.ref o2), .val (.int (0 : Int32)), .val (.int (3 : Int32)), .val (.int (0 : Int32)), .val (.int c0)]) rfl) ?_
  show own_End p e below P (s₁.setTop (mkF m 15 #[.val (.ref o0), .val (.int (0 : Int32)), .val (.ref o2), .val (.int (0 : Int32)), .val (.int (3 : Int32)), .val (.int (0 : Int32)), .val (.int c0)] []))
  refine own_st (fun _ => XS.iload X0.here hx rfl (hb hby own_dcp3_15) rfl) ?_
  show own_End p e below P (s₁.setTop (mkF m 17 #[.val (.ref o0), .val (.int (0 : Int32)), .val (.ref o2), .val (.int (0 : Int32)), .val (.int (3 : Int32)), .val (.int (0 : Int32)), .val (.int c0)] [(.int c0)]))
  refine own_st (fun _ => XS.sipush X0.here hx rfl (hb hby own_dcp3_17)) ?_
  show own_End p e below P (s₁.setTop (mkF m 20 #[.val (.ref o0), .val (.int (0 : Int32)), .val (.ref o2), .val (.int (0 : Int32)), .val (.int (3 : Int32)), .val (.int (0 : Int32)), .val (.int c0)] [(.int (255 : Int32)), (.int c0)]))
  refine own_st (fun _ => XS.icmpYes X0.here hx rfl (pc0 := 20) (pc' := 26) rfl (hb hby own_dcp3_20) rfl (flt hi0).2.2.2 (by decide) (by decide)) ?_
  show own_End p e below P (s₁.setTop (mkF m 26 #[.val (.ref o0), .val (.int (0 : Int32)), .val (.ref o2), .val (.int (0 : Int32)), .val (.int (3 : Int32)), .val (.int (0 : Int32)), .val (.int c0)] []))
  refine own_st (fun _ => XS.aloadN X0.here hx rfl (hb hby own_dcp3_26) rfl rfl) ?_
  show own_End p e below P (s₁.setTop (mkF m 27 #[.val (.ref o0), .val (.int (0 : Int32)), .val (.ref o2), .val (.int (0 : Int32)), .val (.int (3 : Int32)), .val (.int (0 : Int32)), .val (.int c0)] [(.ref o2)]))
  refine own_st (fun _ => XS.iloadN X0.here hx rfl (hb hby own_dcp3_27) rfl) ?_
  show own_End p e below P (s₁.setTop (mkF m 28 #[.val (.ref o0), .val (.int (0 : Int32)), .val (.ref o2), .val (.int (0 : Int32)), .val (.int (3 : Int32)), .val (.int (0 : Int32)), .val (.int c0)] [(.int (0 : Int32)), (.ref o2)]))
  refine own_st (fun _ => XS.iload X0.here hx rfl (hb hby own_dcp3_28) rfl) ?_
  show own_End p e below P (s₁.setTop (mkF m 30 #[.val (.ref o0), .val (.int (0 : Int32)), .val (.ref o2), .val (.int (0 : Int32)), .val (.int (3 : Int32)), .val (.int (0 : Int32)), .val (.int c0)] [(.int c0), (.int (0 : Int32)), (.ref o2)]))
  refine own_st (fun _ => XS.i2b X0.here hx rfl (hb hby own_dcp3_30) rfl) ?_
  show own_End p e below P (s₁.setTop (mkF m 31 #[.val (.ref o0), .val (.int (0 : Int32)), .val (.ref o2), .val (.int (0 : Int32)), .val (.int (3 : Int32)), .val (.int (0 : Int32)), .val (.int c0)] [(.int (c0.toInt8.toInt32)), (.int (0 : Int32)), (.ref o2)]))
  refine own_bastore X0 hx hZ e0 A_o2 (j := (0 : Int32)) (v := (c0.toInt8.toInt32)) (i := 0) (by decide) (by show (0 : Nat) < 3; decide) (g := (mkF m 31 #[.val (.ref o0), .val (.int (0 : Int32)), .val (.ref o2), .val (.int (0 : Int32)), .val (.int (3 : Int32)), .val (.int (0 : Int32)), .val (.int c0)] [(.int (c0.toInt8.toInt32)), (.int (0 : Int32)), (.ref o2)])) rfl rfl (hb hby own_dcp3_31) (fun T1 h1 X1 e1 W1 B1 => ?_)
  have A1 : own_BA Z h1 o2 [(nar .byte (c0.toInt8.toInt32)), (0 : Int32), (0 : Int32)] := B1
  have N1 := Fr.snoc X1 N0 low_o2
  have K1 := Keep.wr K0 W1 (Or.inl (List.mem_of_getElem? (i := 0) rfl))
  show own_End p e below P (T1.setTop (mkF m 32 #[.val (.ref o0), .val (.int (0 : Int32)), .val (.ref o2), .val (.int (0 : Int32)), .val (.int (3 : Int32)), .val (.int (0 : Int32)), .val (.int c0)] []))
  refine own_st (fun _ => XS.iinc X1.here hx rfl (hb hby own_dcp3_32) rfl (l' := #[.val (.ref o0), .val (.int (1 : Int32)), .val (.ref o2), .val (.int (0 : Int32)), .val (.int (3 : Int32)), .val (.int (0 : Int32)), .val (.int c0)]) rfl) ?_
  show own_End p e below P (T1.setTop (mkF m 35 #[.val (.ref o0), .val (.int (1 : Int32)), .val (.ref o2), .val (.int (0 : Int32)), .val (.int (3 : Int32)), .val (.int (0 : Int32)), .val (.int c0)] []))
  refine own_st (fun _ => XS.iinc X1.here hx rfl (hb hby own_dcp3_35) rfl (l' := #[.val (.ref o0), .val (.int (1 : Int32)), .val (.ref o2), .val (.int (1 : Int32)), .val (.int (3 : Int32)), .val (.int (0 : Int32)), .val (.int c0)]) rfl) ?_
  show own_End p e below P (T1.setTop (mkF m 38 #[.val (.ref o0), .val (.int (1 : Int32)), .val (.ref o2), .val (.int (1 : Int32)), .val (.int (3 : Int32)), .val (.int (0 : Int32)), .val (.int c0)] []))
  refine own_st (fun _ => XS.iinc X1.here hx rfl (hb hby own_dcp3_38) rfl (l' := #[.val (.ref o0), .val (.int (1 : Int32)), .val (.ref o2), .val (.int (1 : Int32)), .val (.int (3 : Int32)), .val (.int (1 : Int32)), .val (.int c0)]) rfl) ?_
  show own_End p e below P (T1.setTop (mkF m 41 #[.val (.ref o0), .val (.int (1 : Int32)), .val (.ref o2), .val (.int (1 : Int32)), .val (.int (3 : Int32)), .val (.int (1 : Int32)), .val (.int c0)] []))
  refine own_st (fun _ => XS.goto X1.here hx rfl (pc0 := 41) (pc' := 3) rfl (hb hby own_dcp3_41) (by decide) (by decide)) ?_
  show own_End p e below P (T1.setTop (mkF m 3 #[.val (.ref o0), .val (.int (1 : Int32)), .val (.ref o2), .val (.int (1 : Int32)), .val (.int (3 : Int32)), .val (.int (1 : Int32)), .val (.int c0)] []))
  refine own_st (fun _ => XS.iload X1.here hx rfl (hb hby own_dcp3_3) rfl) ?_
  show own_End p e below P (T1.setTop (mkF m 5 #[.val (.ref o0), .val (.int (1 : Int32)), .val (.ref o2), .val (.int (1 : Int32)), .val (.int (3 : Int32)), .val (.int (1 : Int32)), .val (.int c0)] [(.int (1 : Int32))]))
  refine own_st (fun _ => XS.iload X1.here hx rfl (hb hby own_dcp3_5) rfl) ?_
  show own_End p e below P (T1.setTop (mkF m 7 #[.val (.ref o0), .val (.int (1 : Int32)), .val (.ref o2), .val (.int (1 : Int32)), .val (.int (3 : Int32)), .val (.int (1 : Int32)), .val (.int c0)] [(.int (3 : Int32)), (.int (1 : Int32))]))
  refine own_st (fun _ => XS.icmpNo X1.here hx rfl (hb hby own_dcp3_7) rfl (tlt (by decide : (1 : Int32) < (3 : Int32))).2.1) ?_
  show own_End p e below P (T1.setTop (mkF m 10 #[.val (.ref o0), .val (.int (1 : Int32)), .val (.ref o2), .val (.int (1 : Int32)), .val (.int (3 : Int32)), .val (.int (1 : Int32)), .val (.int c0)] []))
  refine own_st (fun _ => XS.aloadN X1.here hx rfl (hb hby own_dcp3_10) rfl rfl) ?_
  show own_End p e below P (T1.setTop (mkF m 11 #[.val (.ref o0), .val (.int (1 : Int32)), .val (.ref o2), .val (.int (1 : Int32)), .val (.int (3 : Int32)), .val (.int (1 : Int32)), .val (.int c0)] [(.ref o0)]))
  refine own_st (fun _ => XS.iloadN X1.here hx rfl (hb hby own_dcp3_11) rfl) ?_
  show own_End p e below P (T1.setTop (mkF m 12 #[.val (.ref o0), .val (.int (1 : Int32)), .val (.ref o2), .val (.int (1 : Int32)), .val (.int (3 : Int32)), .val (.int (1 : Int32)), .val (.int c0)] [(.int (1 : Int32)), (.ref o0)]))
  have G2 := (A_o0.other W1 ne_o0_o2)
  refine own_caload X1 hx hZ e1 G2 (j := (1 : Int32)) (v := c1) (i := 1) (by decide) rfl (g := (mkF m 12 #[.val (.ref o0), .val (.int (1 : Int32)), .val (.ref o2), .val (.int (1 : Int32)), .val (.int (3 : Int32)), .val (.int (1 : Int32)), .val (.int c0)] [(.int (1 : Int32)), (.ref o0)])) rfl rfl (hb hby own_dcp3_12) ?_
  show own_End p e below P (T1.setTop (mkF m 13 #[.val (.ref o0), .val (.int (1 : Int32)), .val (.ref o2), .val (.int (1 : Int32)), .val (.int (3 : Int32)), .val (.int (1 : Int32)), .val (.int c0)] [(.int c1)]))
  refine own_st (fun _ => XS.istore X1.here hx rfl (hb hby own_dcp3_13) rfl (l' := #[.val (.ref o0), .val (.int (1 : Int32)), .val (.ref o2), .val (.int (1 : Int32)), .val (.int (3 : Int32)), .val (.int (1 : Int32)), .val (.int c1)]) rfl) ?_
  show own_End p e below P (T1.setTop (mkF m 15 #[.val (.ref o0), .val (.int (1 : Int32)), .val (.ref o2), .val (.int (1 : Int32)), .val (.int (3 : Int32)), .val (.int (1 : Int32)), .val (.int c1)] []))
  refine own_st (fun _ => XS.iload X1.here hx rfl (hb hby own_dcp3_15) rfl) ?_
  show own_End p e below P (T1.setTop (mkF m 17 #[.val (.ref o0), .val (.int (1 : Int32)), .val (.ref o2), .val (.int (1 : Int32)), .val (.int (3 : Int32)), .val (.int (1 : Int32)), .val (.int c1)] [(.int c1)]))
  refine own_st (fun _ => XS.sipush X1.here hx rfl (hb hby own_dcp3_17)) ?_
  show own_End p e below P (T1.setTop (mkF m 20 #[.val (.ref o0), .val (.int (1 : Int32)), .val (.ref o2), .val (.int (1 : Int32)), .val (.int (3 : Int32)), .val (.int (1 : Int32)), .val (.int c1)] [(.int (255 : Int32)), (.int c1)]))
  refine own_st (fun _ => XS.icmpYes X1.here hx rfl (pc0 := 20) (pc' := 26) rfl (hb hby own_dcp3_20) rfl (flt hi1).2.2.2 (by decide) (by decide)) ?_
  show own_End p e below P (T1.setTop (mkF m 26 #[.val (.ref o0), .val (.int (1 : Int32)), .val (.ref o2), .val (.int (1 : Int32)), .val (.int (3 : Int32)), .val (.int (1 : Int32)), .val (.int c1)] []))
  refine own_st (fun _ => XS.aloadN X1.here hx rfl (hb hby own_dcp3_26) rfl rfl) ?_
  show own_End p e below P (T1.setTop (mkF m 27 #[.val (.ref o0), .val (.int (1 : Int32)), .val (.ref o2), .val (.int (1 : Int32)), .val (.int (3 : Int32)), .val (.int (1 : Int32)), .val (.int c1)] [(.ref o2)]))
  refine own_st (fun _ => XS.iloadN X1.here hx rfl (hb hby own_dcp3_27) rfl) ?_
  show own_End p e below P (T1.setTop (mkF m 28 #[.val (.ref o0), .val (.int (1 : Int32)), .val (.ref o2), .val (.int (1 : Int32)), .val (.int (3 : Int32)), .val (.int (1 : Int32)), .val (.int c1)] [(.int (1 : Int32)), (.ref o2)]))
  refine own_st (fun _ => XS.iload X1.here hx rfl (hb hby own_dcp3_28) rfl) ?_
  show own_End p e below P (T1.setTop (mkF m 30 #[.val (.ref o0), .val (.int (1 : Int32)), .val (.ref o2), .val (.int (1 : Int32)), .val (.int (3 : Int32)), .val (.int (1 : Int32)), .val (.int c1)] [(.int c1), (.int (1 : Int32)), (.ref o2)]))
  refine own_st (fun _ => XS.i2b X1.here hx rfl (hb hby own_dcp3_30) rfl) ?_
  show own_End p e below P (T1.setTop (mkF m 31 #[.val (.ref o0), .val (.int (1 : Int32)), .val (.ref o2), .val (.int (1 : Int32)), .val (.int (3 : Int32)), .val (.int (1 : Int32)), .val (.int c1)] [(.int (c1.toInt8.toInt32)), (.int (1 : Int32)), (.ref o2)]))
  refine own_bastore X1 hx hZ e1 A1 (j := (1 : Int32)) (v := (c1.toInt8.toInt32)) (i := 1) (by decide) (by show (1 : Nat) < 3; decide) (g := (mkF m 31 #[.val (.ref o0), .val (.int (1 : Int32)), .val (.ref o2), .val (.int (1 : Int32)), .val (.int (3 : Int32)), .val (.int (1 : Int32)), .val (.int c1)] [(.int (c1.toInt8.toInt32)), (.int (1 : Int32)), (.ref o2)])) rfl rfl (hb hby own_dcp3_31) (fun T3 h3 X3 e3 W3 B3 => ?_)
  have A3 : own_BA Z h3 o2 [(nar .byte (c0.toInt8.toInt32)), (nar .byte (c1.toInt8.toInt32)), (0 : Int32)] := B3
  have N3 := Fr.snoc X3 N1 low_o2
  have K3 := Keep.wr K1 W3 (Or.inl (List.mem_of_getElem? (i := 0) rfl))
  show own_End p e below P (T3.setTop (mkF m 32 #[.val (.ref o0), .val (.int (1 : Int32)), .val (.ref o2), .val (.int (1 : Int32)), .val (.int (3 : Int32)), .val (.int (1 : Int32)), .val (.int c1)] []))
  refine own_st (fun _ => XS.iinc X3.here hx rfl (hb hby own_dcp3_32) rfl (l' := #[.val (.ref o0), .val (.int (2 : Int32)), .val (.ref o2), .val (.int (1 : Int32)), .val (.int (3 : Int32)), .val (.int (1 : Int32)), .val (.int c1)]) rfl) ?_
  show own_End p e below P (T3.setTop (mkF m 35 #[.val (.ref o0), .val (.int (2 : Int32)), .val (.ref o2), .val (.int (1 : Int32)), .val (.int (3 : Int32)), .val (.int (1 : Int32)), .val (.int c1)] []))
  refine own_st (fun _ => XS.iinc X3.here hx rfl (hb hby own_dcp3_35) rfl (l' := #[.val (.ref o0), .val (.int (2 : Int32)), .val (.ref o2), .val (.int (2 : Int32)), .val (.int (3 : Int32)), .val (.int (1 : Int32)), .val (.int c1)]) rfl) ?_
  show own_End p e below P (T3.setTop (mkF m 38 #[.val (.ref o0), .val (.int (2 : Int32)), .val (.ref o2), .val (.int (2 : Int32)), .val (.int (3 : Int32)), .val (.int (1 : Int32)), .val (.int c1)] []))
  refine own_st (fun _ => XS.iinc X3.here hx rfl (hb hby own_dcp3_38) rfl (l' := #[.val (.ref o0), .val (.int (2 : Int32)), .val (.ref o2), .val (.int (2 : Int32)), .val (.int (3 : Int32)), .val (.int (2 : Int32)), .val (.int c1)]) rfl) ?_
  show own_End p e below P (T3.setTop (mkF m 41 #[.val (.ref o0), .val (.int (2 : Int32)), .val (.ref o2), .val (.int (2 : Int32)), .val (.int (3 : Int32)), .val (.int (2 : Int32)), .val (.int c1)] []))
  refine own_st (fun _ => XS.goto X3.here hx rfl (pc0 := 41) (pc' := 3) rfl (hb hby own_dcp3_41) (by decide) (by decide)) ?_
  show own_End p e below P (T3.setTop (mkF m 3 #[.val (.ref o0), .val (.int (2 : Int32)), .val (.ref o2), .val (.int (2 : Int32)), .val (.int (3 : Int32)), .val (.int (2 : Int32)), .val (.int c1)] []))
  refine own_st (fun _ => XS.iload X3.here hx rfl (hb hby own_dcp3_3) rfl) ?_
  show own_End p e below P (T3.setTop (mkF m 5 #[.val (.ref o0), .val (.int (2 : Int32)), .val (.ref o2), .val (.int (2 : Int32)), .val (.int (3 : Int32)), .val (.int (2 : Int32)), .val (.int c1)] [(.int (2 : Int32))]))
  refine own_st (fun _ => XS.iload X3.here hx rfl (hb hby own_dcp3_5) rfl) ?_
  show own_End p e below P (T3.setTop (mkF m 7 #[.val (.ref o0), .val (.int (2 : Int32)), .val (.ref o2), .val (.int (2 : Int32)), .val (.int (3 : Int32)), .val (.int (2 : Int32)), .val (.int c1)] [(.int (3 : Int32)), (.int (2 : Int32))]))
  refine own_st (fun _ => XS.icmpNo X3.here hx rfl (hb hby own_dcp3_7) rfl (tlt (by decide : (2 : Int32) < (3 : Int32))).2.1) ?_
  show own_End p e below P (T3.setTop (mkF m 10 #[.val (.ref o0), .val (.int (2 : Int32)), .val (.ref o2), .val (.int (2 : Int32)), .val (.int (3 : Int32)), .val (.int (2 : Int32)), .val (.int c1)] []))
  refine own_st (fun _ => XS.aloadN X3.here hx rfl (hb hby own_dcp3_10) rfl rfl) ?_
  show own_End p e below P (T3.setTop (mkF m 11 #[.val (.ref o0), .val (.int (2 : Int32)), .val (.ref o2), .val (.int (2 : Int32)), .val (.int (3 : Int32)), .val (.int (2 : Int32)), .val (.int c1)] [(.ref o0)]))
  refine own_st (fun _ => XS.iloadN X3.here hx rfl (hb hby own_dcp3_11) rfl) ?_
  show own_End p e below P (T3.setTop (mkF m 12 #[.val (.ref o0), .val (.int (2 : Int32)), .val (.ref o2), .val (.int (2 : Int32)), .val (.int (3 : Int32)), .val (.int (2 : Int32)), .val (.int c1)] [(.int (2 : Int32)), (.ref o0)]))
  have G4 := (G2.other W3 ne_o0_o2)
  refine own_caload X3 hx hZ e3 G4 (j := (2 : Int32)) (v := c2) (i := 2) (by decide) rfl (g := (mkF m 12 #[.val (.ref o0), .val (.int (2 : Int32)), .val (.ref o2), .val (.int (2 : Int32)), .val (.int (3 : Int32)), .val (.int (2 : Int32)), .val (.int c1)] [(.int (2 : Int32)), (.ref o0)])) rfl rfl (hb hby own_dcp3_12) ?_
  show own_End p e below P (T3.setTop (mkF m 13 #[.val (.ref o0), .val (.int (2 : Int32)), .val (.ref o2), .val (.int (2 : Int32)), .val (.int (3 : Int32)), .val (.int (2 : Int32)), .val (.int c1)] [(.int c2)]))
  refine own_st (fun _ => XS.istore X3.here hx rfl (hb hby own_dcp3_13) rfl (l' := #[.val (.ref o0), .val (.int (2 : Int32)), .val (.ref o2), .val (.int (2 : Int32)), .val (.int (3 : Int32)), .val (.int (2 : Int32)), .val (.int c2)]) rfl) ?_
  show own_End p e below P (T3.setTop (mkF m 15 #[.val (.ref o0), .val (.int (2 : Int32)), .val (.ref o2), .val (.int (2 : Int32)), .val (.int (3 : Int32)), .val (.int (2 : Int32)), .val (.int c2)] []))
  refine own_st (fun _ => XS.iload X3.here hx rfl (hb hby own_dcp3_15) rfl) ?_
  show own_End p e below P (T3.setTop (mkF m 17 #[.val (.ref o0), .val (.int (2 : Int32)), .val (.ref o2), .val (.int (2 : Int32)), .val (.int (3 : Int32)), .val (.int (2 : Int32)), .val (.int c2)] [(.int c2)]))
  refine own_st (fun _ => XS.sipush X3.here hx rfl (hb hby own_dcp3_17)) ?_
  show own_End p e below P (T3.setTop (mkF m 20 #[.val (.ref o0), .val (.int (2 : Int32)), .val (.ref o2), .val (.int (2 : Int32)), .val (.int (3 : Int32)), .val (.int (2 : Int32)), .val (.int c2)] [(.int (255 : Int32)), (.int c2)]))
  refine own_st (fun _ => XS.icmpYes X3.here hx rfl (pc0 := 20) (pc' := 26) rfl (hb hby own_dcp3_20) rfl (flt hi2).2.2.2 (by decide) (by decide)) ?_
  show own_End p e below P (T3.setTop (mkF m 26 #[.val (.ref o0), .val (.int (2 : Int32)), .val (.ref o2), .val (.int (2 : Int32)), .val (.int (3 : Int32)), .val (.int (2 : Int32)), .val (.int c2)] []))
  refine own_st (fun _ => XS.aloadN X3.here hx rfl (hb hby own_dcp3_26) rfl rfl) ?_
  show own_End p e below P (T3.setTop (mkF m 27 #[.val (.ref o0), .val (.int (2 : Int32)), .val (.ref o2), .val (.int (2 : Int32)), .val (.int (3 : Int32)), .val (.int (2 : Int32)), .val (.int c2)] [(.ref o2)]))
  refine own_st (fun _ => XS.iloadN X3.here hx rfl (hb hby own_dcp3_27) rfl) ?_
  show own_End p e below P (T3.setTop (mkF m 28 #[.val (.ref o0), .val (.int (2 : Int32)), .val (.ref o2), .val (.int (2 : Int32)), .val (.int (3 : Int32)), .val (.int (2 : Int32)), .val (.int c2)] [(.int (2 : Int32)), (.ref o2)]))
  refine own_st (fun _ => XS.iload X3.here hx rfl (hb hby own_dcp3_28) rfl) ?_
  show own_End p e below P (T3.setTop (mkF m 30 #[.val (.ref o0), .val (.int (2 : Int32)), .val (.ref o2), .val (.int (2 : Int32)), .val (.int (3 : Int32)), .val (.int (2 : Int32)), .val (.int c2)] [(.int c2), (.int (2 : Int32)), (.ref o2)]))
  refine own_st (fun _ => XS.i2b X3.here hx rfl (hb hby own_dcp3_30) rfl) ?_
  show own_End p e below P (T3.setTop (mkF m 31 #[.val (.ref o0), .val (.int (2 : Int32)), .val (.ref o2), .val (.int (2 : Int32)), .val (.int (3 : Int32)), .val (.int (2 : Int32)), .val (.int c2)] [(.int (c2.toInt8.toInt32)), (.int (2 : Int32)), (.ref o2)]))
  refine own_bastore X3 hx hZ e3 A3 (j := (2 : Int32)) (v := (c2.toInt8.toInt32)) (i := 2) (by decide) (by show (2 : Nat) < 3; decide) (g := (mkF m 31 #[.val (.ref o0), .val (.int (2 : Int32)), .val (.ref o2), .val (.int (2 : Int32)), .val (.int (3 : Int32)), .val (.int (2 : Int32)), .val (.int c2)] [(.int (c2.toInt8.toInt32)), (.int (2 : Int32)), (.ref o2)])) rfl rfl (hb hby own_dcp3_31) (fun T5 h5 X5 e5 W5 B5 => ?_)
  have A5 : own_BA Z h5 o2 [(nar .byte (c0.toInt8.toInt32)), (nar .byte (c1.toInt8.toInt32)), (nar .byte (c2.toInt8.toInt32))] := B5
  have N5 := Fr.snoc X5 N3 low_o2
  have K5 := Keep.wr K3 W5 (Or.inl (List.mem_of_getElem? (i := 0) rfl))
  show own_End p e below P (T5.setTop (mkF m 32 #[.val (.ref o0), .val (.int (2 : Int32)), .val (.ref o2), .val (.int (2 : Int32)), .val (.int (3 : Int32)), .val (.int (2 : Int32)), .val (.int c2)] []))
  refine own_st (fun _ => XS.iinc X5.here hx rfl (hb hby own_dcp3_32) rfl (l' := #[.val (.ref o0), .val (.int (3 : Int32)), .val (.ref o2), .val (.int (2 : Int32)), .val (.int (3 : Int32)), .val (.int (2 : Int32)), .val (.int c2)]) rfl) ?_
  show own_End p e below P (T5.setTop (mkF m 35 #[.val (.ref o0), .val (.int (3 : Int32)), .val (.ref o2), .val (.int (2 : Int32)), .val (.int (3 : Int32)), .val (.int (2 : Int32)), .val (.int c2)] []))
  refine own_st (fun _ => XS.iinc X5.here hx rfl (hb hby own_dcp3_35) rfl (l' := #[.val (.ref o0), .val (.int (3 : Int32)), .val (.ref o2), .val (.int (3 : Int32)), .val (.int (3 : Int32)), .val (.int (2 : Int32)), .val (.int c2)]) rfl) ?_
  show own_End p e below P (T5.setTop (mkF m 38 #[.val (.ref o0), .val (.int (3 : Int32)), .val (.ref o2), .val (.int (3 : Int32)), .val (.int (3 : Int32)), .val (.int (2 : Int32)), .val (.int c2)] []))
  refine own_st (fun _ => XS.iinc X5.here hx rfl (hb hby own_dcp3_38) rfl (l' := #[.val (.ref o0), .val (.int (3 : Int32)), .val (.ref o2), .val (.int (3 : Int32)), .val (.int (3 : Int32)), .val (.int (3 : Int32)), .val (.int c2)]) rfl) ?_
  show own_End p e below P (T5.setTop (mkF m 41 #[.val (.ref o0), .val (.int (3 : Int32)), .val (.ref o2), .val (.int (3 : Int32)), .val (.int (3 : Int32)), .val (.int (3 : Int32)), .val (.int c2)] []))
  refine own_st (fun _ => XS.goto X5.here hx rfl (pc0 := 41) (pc' := 3) rfl (hb hby own_dcp3_41) (by decide) (by decide)) ?_
  show own_End p e below P (T5.setTop (mkF m 3 #[.val (.ref o0), .val (.int (3 : Int32)), .val (.ref o2), .val (.int (3 : Int32)), .val (.int (3 : Int32)), .val (.int (3 : Int32)), .val (.int c2)] []))
  refine own_st (fun _ => XS.iload X5.here hx rfl (hb hby own_dcp3_3) rfl) ?_
  show own_End p e below P (T5.setTop (mkF m 5 #[.val (.ref o0), .val (.int (3 : Int32)), .val (.ref o2), .val (.int (3 : Int32)), .val (.int (3 : Int32)), .val (.int (3 : Int32)), .val (.int c2)] [(.int (3 : Int32))]))
  refine own_st (fun _ => XS.iload X5.here hx rfl (hb hby own_dcp3_5) rfl) ?_
  show own_End p e below P (T5.setTop (mkF m 7 #[.val (.ref o0), .val (.int (3 : Int32)), .val (.ref o2), .val (.int (3 : Int32)), .val (.int (3 : Int32)), .val (.int (3 : Int32)), .val (.int c2)] [(.int (3 : Int32)), (.int (3 : Int32))]))
  refine own_st (fun _ => XS.icmpYes X5.here hx rfl (pc0 := 7) (pc' := 44) rfl (hb hby own_dcp3_7) rfl (flt (by decide : ¬ ((3 : Int32) < (3 : Int32)))).2.1 (by decide) (by decide)) ?_
  show own_End p e below P (T5.setTop (mkF m 44 #[.val (.ref o0), .val (.int (3 : Int32)), .val (.ref o2), .val (.int (3 : Int32)), .val (.int (3 : Int32)), .val (.int (3 : Int32)), .val (.int c2)] []))
  refine own_st (fun _ => XS.iload X5.here hx rfl (hb hby own_dcp3_44) rfl) ?_
  show own_End p e below P (T5.setTop (mkF m 46 #[.val (.ref o0), .val (.int (3 : Int32)), .val (.ref o2), .val (.int (3 : Int32)), .val (.int (3 : Int32)), .val (.int (3 : Int32)), .val (.int c2)] [(.int (3 : Int32))]))
  have hfin : ((fun (v : Option Value) (h : Heap) (L : List Loc) => v = some (.int (3 : Int32)) ∧ Fr n0 L ∧ Keep h0 h [o2] ∧ own_BA Z h o2 [(nar .byte (c0.toInt8.toInt32)), (nar .byte (c1.toInt8.toInt32)), (nar .byte (c2.toInt8.toInt32))])) (some (.int (3 : Int32))) h5 _ := ⟨rfl, N5, K5, A5⟩
  refine own_retI X5 hx hlk hP hrt (hb hby own_dcp3_46) (by decide) (by decide) ?_
  rw [e5]; exact hfin
theorem own_dcb1_0 : decode jdk_52_method_16_code 0 = .ok (.iload_n 2, 1) := by decide +kernel
theorem own_dcb1_1 : decode jdk_52_method_16_code 1 = .ok (.newarray .byte, 2) := by decide +kernel
theorem own_dcb1_3 : decode jdk_52_method_16_code 3 = .ok (.astore_n 3, 1) := by decide +kernel
theorem own_dcb1_4 : decode jdk_52_method_16_code 4 = .ok (.aload_n 0, 1) := by decide +kernel
theorem own_dcb1_5 : decode jdk_52_method_16_code 5 = .ok (.iload_n 1, 1) := by decide +kernel
theorem own_dcb1_6 : decode jdk_52_method_16_code 6 = .ok (.aload_n 3, 1) := by decide +kernel
theorem own_dcb1_7 : decode jdk_52_method_16_code 7 = .ok (.iconst 0, 1) := by decide +kernel
theorem own_dcb1_8 : decode jdk_52_method_16_code 8 = .ok (.iload_n 2, 1) := by decide +kernel
theorem own_dcb1_9 : decode jdk_52_method_16_code 9 = .ok (.invokestatic 115, 3) := by decide +kernel
theorem own_pd_CI_BII_I_688 : parseMethodDescriptor "([CI[BII)I" = some ⟨[(.array .char), .int, (.array .byte), .int, .int], some .int⟩ := by decide +kernel
theorem own_dcb1_12 : decode jdk_52_method_16_code 12 = .ok (.istore 4, 2) := by decide +kernel
theorem own_dcb1_14 : decode jdk_52_method_16_code 14 = .ok (.iload 4, 2) := by decide +kernel
theorem own_dcb1_16 : decode jdk_52_method_16_code 16 = .ok (.iload_n 2, 1) := by decide +kernel
theorem own_dcb1_17 : decode jdk_52_method_16_code 17 = .ok (.if_icmp .eq 40, 3) := by decide +kernel
theorem own_dcb1_57 : decode jdk_52_method_16_code 57 = .ok (.aload_n 3, 1) := by decide +kernel
theorem own_dcb1_58 : decode jdk_52_method_16_code 58 = .ok (.areturn, 1) := by decide +kernel
theorem own_efcb1 (m : MethodId) (o0 : Addr) : entryFrame m #[(.ref o0), (.int (0 : Int32)), (.int (1 : Int32))] 6 = mkF m 0 #[.val (.ref o0), .val (.int (0 : Int32)), .val (.int (1 : Int32)), .unset, .unset, .unset] [] := by first | (simp [entryFrame, mkF, argsToLocals, Value.category]; done) | rfl
set_option maxRecDepth 65536 in
set_option maxHeartbeats 40000000 in
theorem own_mcb1 (l : Launch) (Z : State) (a0 : Array Value) (hw : ∀ d ∈ tables_1, d.before a0 Z = true) (ws : List Jvm.Cond) (o0 : Addr) (c0 : Int32) (h0 : Heap) (n0 : Nat) (Z0 : n0 ≤ h0.size) (A_o0 : own_CA Z h0 o0 [c0]) (hi0 : ¬ ((255 : Int32) < c0)) :
    own_Met l Z (⟨"java/lang/StringUTF16", "compress", "([CII)[B"⟩ : MethodName) jdk_52_method_16_code 6 (some (.array .byte)) ws ({ frames := 1, cells := 1, slots := 1, locals := 18 } : Room) #[(.ref o0), (.int (0 : Int32)), (.int (1 : Int32))] h0 (fun (v : Option Value) (h : Heap) (L : List Loc) => ∃ (b1 : Addr), v = some (.ref b1) ∧ Fr n0 L ∧ Keep h0 h [] ∧ h0.size ≤ b1 ∧ n0 ≤ b1 ∧ own_BA Z h b1 [(nar .byte (c0.toInt8.toInt32))]) := by
  refine own_enter (plainFor_of_name own_pn_java_lang_StringUTF16) ?_
  intro p e s m below meth c s₁ P hx hby hml hrt hlk hown hnm hZ X0 e0 hP
  have N0 := Fr.nil n0
  have K0 := Keep.refl h0 []
  have hml' : c.maxLocals = 6 := hml
  refine own_cast (own_efcb1 m o0) ?_
  show own_End p e below P (s₁.setTop (mkF m 0 #[.val (.ref o0), .val (.int (0 : Int32)), .val (.int (1 : Int32)), .unset, .unset, .unset] []))
  refine own_st (fun _ => XS.iloadN X0.here hx rfl (hb hby own_dcb1_0) rfl) ?_
  show own_End p e below P (s₁.setTop (mkF m 1 #[.val (.ref o0), .val (.int (0 : Int32)), .val (.int (1 : Int32)), .unset, .unset, .unset] [(.int (1 : Int32))]))
  refine own_newB X0 hx hZ (hw _ (List.mem_of_getElem? (i := 19) rfl)) e0 (j := (1 : Int32)) (n := 1) (by decide) 1 (by decide) (by decide) (by decide) (by decide) (g := (mkF m 1 #[.val (.ref o0), .val (.int (0 : Int32)), .val (.int (1 : Int32)), .unset, .unset, .unset] [(.int (1 : Int32))])) rfl rfl (hb hby own_dcb1_1) (fun T1 h1 X1 e1 E1 B1 => ?_)
  obtain ⟨b1, g1⟩ : ∃ z, z = h0.size := ⟨_, rfl⟩
  rw [← g1] at B1 ⊢
  have ne2 : o0 ≠ b1 := Nat.ne_of_lt (Nat.lt_of_lt_of_le A_o0.lt (Nat.le_of_eq g1.symm))
  have low_b1 : n0 ≤ b1 := Nat.le_trans (Nat.le_trans Z0 K0.1) (Nat.le_of_eq g1.symm)
  have sz_b1 : h0.size ≤ b1 := Nat.le_trans K0.1 (Nat.le_of_eq g1.symm)
  have K1 := Keep.ext K0 E1
  have A1 : own_BA Z h1 b1 [(0 : Int32)] := B1
  show own_End p e below P (T1.setTop (mkF m 3 #[.val (.ref o0), .val (.int (0 : Int32)), .val (.int (1 : Int32)), .unset, .unset, .unset] [(.ref b1)]))
  refine own_st (fun _ => XS.astoreN X1.here hx rfl (hb hby own_dcb1_3) rfl rfl (l' := #[.val (.ref o0), .val (.int (0 : Int32)), .val (.int (1 : Int32)), .val (.ref b1), .unset, .unset]) rfl) ?_
  show own_End p e below P (T1.setTop (mkF m 4 #[.val (.ref o0), .val (.int (0 : Int32)), .val (.int (1 : Int32)), .val (.ref b1), .unset, .unset] []))
  refine own_st (fun _ => XS.aloadN X1.here hx rfl (hb hby own_dcb1_4) rfl rfl) ?_
  show own_End p e below P (T1.setTop (mkF m 5 #[.val (.ref o0), .val (.int (0 : Int32)), .val (.int (1 : Int32)), .val (.ref b1), .unset, .unset] [(.ref o0)]))
  refine own_st (fun _ => XS.iloadN X1.here hx rfl (hb hby own_dcb1_5) rfl) ?_
  show own_End p e below P (T1.setTop (mkF m 6 #[.val (.ref o0), .val (.int (0 : Int32)), .val (.int (1 : Int32)), .val (.ref b1), .unset, .unset] [(.int (0 : Int32)), (.ref o0)]))
  refine own_st (fun _ => XS.aloadN X1.here hx rfl (hb hby own_dcb1_6) rfl rfl) ?_
  show own_End p e below P (T1.setTop (mkF m 7 #[.val (.ref o0), .val (.int (0 : Int32)), .val (.int (1 : Int32)), .val (.ref b1), .unset, .unset] [(.ref b1), (.int (0 : Int32)), (.ref o0)]))
  refine own_st (fun _ => XS.iconst X1.here hx rfl (hb hby own_dcb1_7)) ?_
  show own_End p e below P (T1.setTop (mkF m 8 #[.val (.ref o0), .val (.int (0 : Int32)), .val (.int (1 : Int32)), .val (.ref b1), .unset, .unset] [(.int (0 : Int32)), (.ref b1), (.int (0 : Int32)), (.ref o0)]))
  refine own_st (fun _ => XS.iloadN X1.here hx rfl (hb hby own_dcb1_8) rfl) ?_
  show own_End p e below P (T1.setTop (mkF m 9 #[.val (.ref o0), .val (.int (0 : Int32)), .val (.int (1 : Int32)), .val (.ref b1), .unset, .unset] [(.int (1 : Int32)), (.int (0 : Int32)), (.ref b1), (.int (0 : Int32)), (.ref o0)]))
  have G4 := (A_o0.ext E1)
  refine own_callS X1 hx hZ (y := (⟨"java/lang/StringUTF16", "compress", "([CI[BII)I"⟩ : MethodName)) hown (hw _ (List.mem_of_getElem? (i := 31) rfl)) (hw _ (List.mem_of_getElem? (i := 32) rfl)) (hw _ (List.mem_of_getElem? (i := 29) rfl)) (hw _ (List.mem_of_getElem? (i := 33) rfl)) (by decide) (own_mcp1 l Z a0 hw [] o0 b1 c0 h1 n0 (Nat.le_trans Z0 K1.1) G4 A1 low_b1 ne2 hi0) 0 (by decide) (by decide) e1 (by decide) (by decide) (g := (mkF m 9 #[.val (.ref o0), .val (.int (0 : Int32)), .val (.int (1 : Int32)), .val (.ref b1), .unset, .unset] [(.int (1 : Int32)), (.int (0 : Int32)), (.ref b1), (.int (0 : Int32)), (.ref o0)])) rfl (by rw [hml']; rfl) (argsL := [(.ref o0), (.int (0 : Int32)), (.ref b1), (.int (0 : Int32)), (.int (1 : Int32))]) (rest := []) rfl (lenOf own_pd_CI_BII_I_688 rfl) rfl (by show 2 * 0 + _ ≤ _; exact Nat.le_of_eq rfl) (hb hby own_dcb1_9) (fun r3 T3 L3 X3 hQ3 => ?_)
  obtain ⟨rfl, Nq3, Kq3, f0_3⟩ := hQ3
  have N3 := Fr.app N0 Nq3
  have K3 := Keep.trans K1 Kq3 (allS (Or.inr sz_b1) all0)
  show own_End p e below P (T3.setTop (mkF m 12 #[.val (.ref o0), .val (.int (0 : Int32)), .val (.int (1 : Int32)), .val (.ref b1), .unset, .unset] [(.int (1 : Int32))]))
  refine own_st (fun _ => XS.istore X3.here hx rfl (hb hby own_dcb1_12) rfl (l' := #[.val (.ref o0), .val (.int (0 : Int32)), .val (.int (1 : Int32)), .val (.ref b1), .val (.int (1 : Int32)), .unset]) rfl) ?_
  show own_End p e below P (T3.setTop (mkF m 14 #[.val (.ref o0), .val (.int (0 : Int32)), .val (.int (1 : Int32)), .val (.ref b1), .val (.int (1 : Int32)), .unset] []))
  refine own_st (fun _ => XS.iload X3.here hx rfl (hb hby own_dcb1_14) rfl) ?_
  show own_End p e below P (T3.setTop (mkF m 16 #[.val (.ref o0), .val (.int (0 : Int32)), .val (.int (1 : Int32)), .val (.ref b1), .val (.int (1 : Int32)), .unset] [(.int (1 : Int32))]))
  refine own_st (fun _ => XS.iloadN X3.here hx rfl (hb hby own_dcb1_16) rfl) ?_
  show own_End p e below P (T3.setTop (mkF m 17 #[.val (.ref o0), .val (.int (0 : Int32)), .val (.int (1 : Int32)), .val (.ref b1), .val (.int (1 : Int32)), .unset] [(.int (1 : Int32)), (.int (1 : Int32))]))
  refine own_st (fun _ => XS.icmpYes X3.here hx rfl (pc0 := 17) (pc' := 57) rfl (hb hby own_dcb1_17) rfl (teq (by decide : (1 : Int32) = (1 : Int32))).1 (by decide) (by decide)) ?_
  show own_End p e below P (T3.setTop (mkF m 57 #[.val (.ref o0), .val (.int (0 : Int32)), .val (.int (1 : Int32)), .val (.ref b1), .val (.int (1 : Int32)), .unset] []))
  refine own_st (fun _ => XS.aloadN X3.here hx rfl (hb hby own_dcb1_57) rfl rfl) ?_
  show own_End p e below P (T3.setTop (mkF m 58 #[.val (.ref o0), .val (.int (0 : Int32)), .val (.int (1 : Int32)), .val (.ref b1), .val (.int (1 : Int32)), .unset] [(.ref b1)]))
  have hfin : ((fun (v : Option Value) (h : Heap) (L : List Loc) => ∃ (b1 : Addr), v = some (.ref b1) ∧ Fr n0 L ∧ Keep h0 h [] ∧ h0.size ≤ b1 ∧ n0 ≤ b1 ∧ own_BA Z h b1 [(nar .byte (c0.toInt8.toInt32))])) (some (.ref b1)) T3.heap _ := ⟨b1, rfl, N3, K3, sz_b1, low_b1, f0_3⟩
  refine own_retR X3 hx hlk hP rfl rfl hrt (hb hby own_dcb1_58) (by decide) (by decide) ?_
  exact hfin
theorem own_dcl1_0 : decode jdk_52_method_15_code 0 = .ok (.iload_n 1, 1) := by decide +kernel
theorem own_dcl1_1 : decode jdk_52_method_15_code 1 = .ok (.aload_n 0, 1) := by decide +kernel
theorem own_dcl1_2 : decode jdk_52_method_15_code 2 = .ok (.arraylength, 1) := by decide +kernel
theorem own_dcl1_3 : decode jdk_52_method_15_code 3 = .ok (.isub, 1) := by decide +kernel
theorem own_dcl1_4 : decode jdk_52_method_15_code 4 = .ok (.bipush 31, 2) := by decide +kernel
theorem own_dcl1_6 : decode jdk_52_method_15_code 6 = .ok (.iushr, 1) := by decide +kernel
theorem own_dcl1_7 : decode jdk_52_method_15_code 7 = .ok (.i2b, 1) := by decide +kernel
theorem own_dcl1_8 : decode jdk_52_method_15_code 8 = .ok (.ireturn, 1) := by decide +kernel
theorem own_efcl1 (m : MethodId) (o0 : Addr) : entryFrame m #[(.ref o0), (.int (1 : Int32))] 2 = mkF m 0 #[.val (.ref o0), .val (.int (1 : Int32))] [] := by first | (simp [entryFrame, mkF, argsToLocals, Value.category]; done) | rfl
set_option maxRecDepth 65536 in
set_option maxHeartbeats 40000000 in
theorem own_mcl1 (l : Launch) (Z : State) (a0 : Array Value) (hw : ∀ d ∈ tables_1, d.before a0 Z = true) (ws : List Jvm.Cond) (o0 : Addr) (c0 : Int32) (h0 : Heap) (n0 : Nat) (Z0 : n0 ≤ h0.size) (A_o0 : own_BA Z h0 o0 [c0]) :
    own_Met l Z (⟨"java/lang/StringUTF16", "coderFromArrayLen", "([BI)B"⟩ : MethodName) jdk_52_method_15_code 2 (some .byte) ws ({ frames := 0, cells := 0, slots := 0, locals := 0 } : Room) #[(.ref o0), (.int (1 : Int32))] h0 (fun (v : Option Value) (h : Heap) (L : List Loc) => v = some (.int (0 : Int32)) ∧ Fr n0 L ∧ h = h0) := by
  refine own_enter (plainFor_of_name own_pn_java_lang_StringUTF16) ?_
  intro p e s m below meth c s₁ P hx hby hml hrt hlk hown hnm hZ X0 e0 hP
  have N0 := Fr.nil n0
  have K0 := Keep.refl h0 []
  have hml' : c.maxLocals = 2 := hml
  refine own_cast (own_efcl1 m o0) ?_
  show own_End p e below P (s₁.setTop (mkF m 0 #[.val (.ref o0), .val (.int (1 : Int32))] []))
  refine own_st (fun _ => XS.iloadN X0.here hx rfl (hb hby own_dcl1_0) rfl) ?_
  show own_End p e below P (s₁.setTop (mkF m 1 #[.val (.ref o0), .val (.int (1 : Int32))] [(.int (1 : Int32))]))
  refine own_st (fun _ => XS.aloadN X0.here hx rfl (hb hby own_dcl1_1) rfl rfl) ?_
  show own_End p e below P (s₁.setTop (mkF m 2 #[.val (.ref o0), .val (.int (1 : Int32))] [(.ref o0), (.int (1 : Int32))]))
  refine own_alenB X0 hx hZ e0 A_o0 (g := (mkF m 2 #[.val (.ref o0), .val (.int (1 : Int32))] [(.ref o0), (.int (1 : Int32))])) rfl rfl (hb hby own_dcl1_2) ?_
  show own_End p e below P (s₁.setTop (mkF m 3 #[.val (.ref o0), .val (.int (1 : Int32))] [(.int (1 : Int32)), (.int (1 : Int32))]))
  refine own_st (fun _ => XS.isub X0.here hx rfl (hb hby own_dcl1_3) rfl) ?_
  show own_End p e below P (s₁.setTop (mkF m 4 #[.val (.ref o0), .val (.int (1 : Int32))] [(.int (0 : Int32))]))
  refine own_st (fun _ => XS.bipush X0.here hx rfl (hb hby own_dcl1_4)) ?_
  show own_End p e below P (s₁.setTop (mkF m 6 #[.val (.ref o0), .val (.int (1 : Int32))] [(.int (31 : Int32)), (.int (0 : Int32))]))
  refine own_st (fun _ => XS.iushr X0.here hx rfl (hb hby own_dcl1_6) rfl) ?_
  show own_End p e below P (s₁.setTop (mkF m 7 #[.val (.ref o0), .val (.int (1 : Int32))] [(.int (((0 : Int32).toUInt32 >>> ((31 : Int32) &&& 31).toUInt32).toInt32))]))
  refine own_st (fun _ => XS.i2b X0.here hx rfl (hb hby own_dcl1_7) rfl) ?_
  show own_End p e below P (s₁.setTop (mkF m 8 #[.val (.ref o0), .val (.int (1 : Int32))] [(.int ((((0 : Int32).toUInt32 >>> ((31 : Int32) &&& 31).toUInt32).toInt32).toInt8.toInt32))]))
  rw [show ((((0 : Int32).toUInt32 >>> ((31 : Int32) &&& 31).toUInt32).toInt32).toInt8.toInt32) = (0 : Int32) from by decide]
  show own_End p e below P (s₁.setTop (mkF m 8 #[.val (.ref o0), .val (.int (1 : Int32))] [(.int (0 : Int32))]))
  exact own_retN X0 hx hlk hP (t := .byte) (by simp) hrt (hb hby own_dcl1_8) (by decide) (by decide) ⟨rfl, N0, e0⟩
theorem own_dcb2_0 : decode jdk_52_method_16_code 0 = .ok (.iload_n 2, 1) := by decide +kernel
theorem own_dcb2_1 : decode jdk_52_method_16_code 1 = .ok (.newarray .byte, 2) := by decide +kernel
theorem own_dcb2_3 : decode jdk_52_method_16_code 3 = .ok (.astore_n 3, 1) := by decide +kernel
theorem own_dcb2_4 : decode jdk_52_method_16_code 4 = .ok (.aload_n 0, 1) := by decide +kernel
theorem own_dcb2_5 : decode jdk_52_method_16_code 5 = .ok (.iload_n 1, 1) := by decide +kernel
theorem own_dcb2_6 : decode jdk_52_method_16_code 6 = .ok (.aload_n 3, 1) := by decide +kernel
theorem own_dcb2_7 : decode jdk_52_method_16_code 7 = .ok (.iconst 0, 1) := by decide +kernel
theorem own_dcb2_8 : decode jdk_52_method_16_code 8 = .ok (.iload_n 2, 1) := by decide +kernel
theorem own_dcb2_9 : decode jdk_52_method_16_code 9 = .ok (.invokestatic 115, 3) := by decide +kernel
theorem own_dcb2_12 : decode jdk_52_method_16_code 12 = .ok (.istore 4, 2) := by decide +kernel
theorem own_dcb2_14 : decode jdk_52_method_16_code 14 = .ok (.iload 4, 2) := by decide +kernel
theorem own_dcb2_16 : decode jdk_52_method_16_code 16 = .ok (.iload_n 2, 1) := by decide +kernel
theorem own_dcb2_17 : decode jdk_52_method_16_code 17 = .ok (.if_icmp .eq 40, 3) := by decide +kernel
theorem own_dcb2_57 : decode jdk_52_method_16_code 57 = .ok (.aload_n 3, 1) := by decide +kernel
theorem own_dcb2_58 : decode jdk_52_method_16_code 58 = .ok (.areturn, 1) := by decide +kernel
theorem own_efcb2 (m : MethodId) (o0 : Addr) : entryFrame m #[(.ref o0), (.int (0 : Int32)), (.int (2 : Int32))] 6 = mkF m 0 #[.val (.ref o0), .val (.int (0 : Int32)), .val (.int (2 : Int32)), .unset, .unset, .unset] [] := by first | (simp [entryFrame, mkF, argsToLocals, Value.category]; done) | rfl
set_option maxRecDepth 65536 in
set_option maxHeartbeats 40000000 in
theorem own_mcb2 (l : Launch) (Z : State) (a0 : Array Value) (hw : ∀ d ∈ tables_1, d.before a0 Z = true) (ws : List Jvm.Cond) (o0 : Addr) (c0 : Int32) (c1 : Int32) (h0 : Heap) (n0 : Nat) (Z0 : n0 ≤ h0.size) (A_o0 : own_CA Z h0 o0 [c0, c1]) (hi0 : ¬ ((255 : Int32) < c0)) (hi1 : ¬ ((255 : Int32) < c1)) :
    own_Met l Z (⟨"java/lang/StringUTF16", "compress", "([CII)[B"⟩ : MethodName) jdk_52_method_16_code 6 (some (.array .byte)) ws ({ frames := 1, cells := 1, slots := 2, locals := 18 } : Room) #[(.ref o0), (.int (0 : Int32)), (.int (2 : Int32))] h0 (fun (v : Option Value) (h : Heap) (L : List Loc) => ∃ (b1 : Addr), v = some (.ref b1) ∧ Fr n0 L ∧ Keep h0 h [] ∧ h0.size ≤ b1 ∧ n0 ≤ b1 ∧ own_BA Z h b1 [(nar .byte (c0.toInt8.toInt32)), (nar .byte (c1.toInt8.toInt32))]) := by
  refine own_enter (plainFor_of_name own_pn_java_lang_StringUTF16) ?_
  intro p e s m below meth c s₁ P hx hby hml hrt hlk hown hnm hZ X0 e0 hP
  have N0 := Fr.nil n0
  have K0 := Keep.refl h0 []
  have hml' : c.maxLocals = 6 := hml
  refine own_cast (own_efcb2 m o0) ?_
  show own_End p e below P (s₁.setTop (mkF m 0 #[.val (.ref o0), .val (.int (0 : Int32)), .val (.int (2 : Int32)), .unset, .unset, .unset] []))
  refine own_st (fun _ => XS.iloadN X0.here hx rfl (hb hby own_dcb2_0) rfl) ?_
  show own_End p e below P (s₁.setTop (mkF m 1 #[.val (.ref o0), .val (.int (0 : Int32)), .val (.int (2 : Int32)), .unset, .unset, .unset] [(.int (2 : Int32))]))
  refine own_newB X0 hx hZ (hw _ (List.mem_of_getElem? (i := 19) rfl)) e0 (j := (2 : Int32)) (n := 2) (by decide) 2 (by decide) (by decide) (by decide) (by decide) (g := (mkF m 1 #[.val (.ref o0), .val (.int (0 : Int32)), .val (.int (2 : Int32)), .unset, .unset, .unset] [(.int (2 : Int32))])) rfl rfl (hb hby own_dcb2_1) (fun T1 h1 X1 e1 E1 B1 => ?_)
  obtain ⟨b1, g1⟩ : ∃ z, z = h0.size := ⟨_, rfl⟩
  rw [← g1] at B1 ⊢
  have ne2 : o0 ≠ b1 := Nat.ne_of_lt (Nat.lt_of_lt_of_le A_o0.lt (Nat.le_of_eq g1.symm))
  have low_b1 : n0 ≤ b1 := Nat.le_trans (Nat.le_trans Z0 K0.1) (Nat.le_of_eq g1.symm)
  have sz_b1 : h0.size ≤ b1 := Nat.le_trans K0.1 (Nat.le_of_eq g1.symm)
  have K1 := Keep.ext K0 E1
  have A1 : own_BA Z h1 b1 [(0 : Int32), (0 : Int32)] := B1
  show own_End p e below P (T1.setTop (mkF m 3 #[.val (.ref o0), .val (.int (0 : Int32)), .val (.int (2 : Int32)), .unset, .unset, .unset] [(.ref b1)]))
  refine own_st (fun _ => XS.astoreN X1.here hx rfl (hb hby own_dcb2_3) rfl rfl (l' := #[.val (.ref o0), .val (.int (0 : Int32)), .val (.int (2 : Int32)), .val (.ref b1), .unset, .unset]) rfl) ?_
  show own_End p e below P (T1.setTop (mkF m 4 #[.val (.ref o0), .val (.int (0 : Int32)), .val (.int (2 : Int32)), .val (.ref b1), .unset, .unset] []))
  refine own_st (fun _ => XS.aloadN X1.here hx rfl (hb hby own_dcb2_4) rfl rfl) ?_
  show own_End p e below P (T1.setTop (mkF m 5 #[.val (.ref o0), .val (.int (0 : Int32)), .val (.int (2 : Int32)), .val (.ref b1), .unset, .unset] [(.ref o0)]))
  refine own_st (fun _ => XS.iloadN X1.here hx rfl (hb hby own_dcb2_5) rfl) ?_
  show own_End p e below P (T1.setTop (mkF m 6 #[.val (.ref o0), .val (.int (0 : Int32)), .val (.int (2 : Int32)), .val (.ref b1), .unset, .unset] [(.int (0 : Int32)), (.ref o0)]))
  refine own_st (fun _ => XS.aloadN X1.here hx rfl (hb hby own_dcb2_6) rfl rfl) ?_
  show own_End p e below P (T1.setTop (mkF m 7 #[.val (.ref o0), .val (.int (0 : Int32)), .val (.int (2 : Int32)), .val (.ref b1), .unset, .unset] [(.ref b1), (.int (0 : Int32)), (.ref o0)]))
  refine own_st (fun _ => XS.iconst X1.here hx rfl (hb hby own_dcb2_7)) ?_
  show own_End p e below P (T1.setTop (mkF m 8 #[.val (.ref o0), .val (.int (0 : Int32)), .val (.int (2 : Int32)), .val (.ref b1), .unset, .unset] [(.int (0 : Int32)), (.ref b1), (.int (0 : Int32)), (.ref o0)]))
  refine own_st (fun _ => XS.iloadN X1.here hx rfl (hb hby own_dcb2_8) rfl) ?_
  show own_End p e below P (T1.setTop (mkF m 9 #[.val (.ref o0), .val (.int (0 : Int32)), .val (.int (2 : Int32)), .val (.ref b1), .unset, .unset] [(.int (2 : Int32)), (.int (0 : Int32)), (.ref b1), (.int (0 : Int32)), (.ref o0)]))
  have G4 := (A_o0.ext E1)
  refine own_callS X1 hx hZ (y := (⟨"java/lang/StringUTF16", "compress", "([CI[BII)I"⟩ : MethodName)) hown (hw _ (List.mem_of_getElem? (i := 31) rfl)) (hw _ (List.mem_of_getElem? (i := 32) rfl)) (hw _ (List.mem_of_getElem? (i := 29) rfl)) (hw _ (List.mem_of_getElem? (i := 33) rfl)) (by decide) (own_mcp2 l Z a0 hw [] o0 b1 c0 c1 h1 n0 (Nat.le_trans Z0 K1.1) G4 A1 low_b1 ne2 hi0 hi1) 0 (by decide) (by decide) e1 (by decide) (by decide) (g := (mkF m 9 #[.val (.ref o0), .val (.int (0 : Int32)), .val (.int (2 : Int32)), .val (.ref b1), .unset, .unset] [(.int (2 : Int32)), (.int (0 : Int32)), (.ref b1), (.int (0 : Int32)), (.ref o0)])) rfl (by rw [hml']; rfl) (argsL := [(.ref o0), (.int (0 : Int32)), (.ref b1), (.int (0 : Int32)), (.int (2 : Int32))]) (rest := []) rfl (lenOf own_pd_CI_BII_I_688 rfl) rfl (by show 2 * 0 + _ ≤ _; exact Nat.le_of_eq rfl) (hb hby own_dcb2_9) (fun r3 T3 L3 X3 hQ3 => ?_)
  obtain ⟨rfl, Nq3, Kq3, f0_3⟩ := hQ3
  have N3 := Fr.app N0 Nq3
  have K3 := Keep.trans K1 Kq3 (allS (Or.inr sz_b1) all0)
  show own_End p e below P (T3.setTop (mkF m 12 #[.val (.ref o0), .val (.int (0 : Int32)), .val (.int (2 : Int32)), .val (.ref b1), .unset, .unset] [(.int (2 : Int32))]))
  refine own_st (fun _ => XS.istore X3.here hx rfl (hb hby own_dcb2_12) rfl (l' := #[.val (.ref o0), .val (.int (0 : Int32)), .val (.int (2 : Int32)), .val (.ref b1), .val (.int (2 : Int32)), .unset]) rfl) ?_
  show own_End p e below P (T3.setTop (mkF m 14 #[.val (.ref o0), .val (.int (0 : Int32)), .val (.int (2 : Int32)), .val (.ref b1), .val (.int (2 : Int32)), .unset] []))
  refine own_st (fun _ => XS.iload X3.here hx rfl (hb hby own_dcb2_14) rfl) ?_
  show own_End p e below P (T3.setTop (mkF m 16 #[.val (.ref o0), .val (.int (0 : Int32)), .val (.int (2 : Int32)), .val (.ref b1), .val (.int (2 : Int32)), .unset] [(.int (2 : Int32))]))
  refine own_st (fun _ => XS.iloadN X3.here hx rfl (hb hby own_dcb2_16) rfl) ?_
  show own_End p e below P (T3.setTop (mkF m 17 #[.val (.ref o0), .val (.int (0 : Int32)), .val (.int (2 : Int32)), .val (.ref b1), .val (.int (2 : Int32)), .unset] [(.int (2 : Int32)), (.int (2 : Int32))]))
  refine own_st (fun _ => XS.icmpYes X3.here hx rfl (pc0 := 17) (pc' := 57) rfl (hb hby own_dcb2_17) rfl (teq (by decide : (2 : Int32) = (2 : Int32))).1 (by decide) (by decide)) ?_
  show own_End p e below P (T3.setTop (mkF m 57 #[.val (.ref o0), .val (.int (0 : Int32)), .val (.int (2 : Int32)), .val (.ref b1), .val (.int (2 : Int32)), .unset] []))
  refine own_st (fun _ => XS.aloadN X3.here hx rfl (hb hby own_dcb2_57) rfl rfl) ?_
  show own_End p e below P (T3.setTop (mkF m 58 #[.val (.ref o0), .val (.int (0 : Int32)), .val (.int (2 : Int32)), .val (.ref b1), .val (.int (2 : Int32)), .unset] [(.ref b1)]))
  have hfin : ((fun (v : Option Value) (h : Heap) (L : List Loc) => ∃ (b1 : Addr), v = some (.ref b1) ∧ Fr n0 L ∧ Keep h0 h [] ∧ h0.size ≤ b1 ∧ n0 ≤ b1 ∧ own_BA Z h b1 [(nar .byte (c0.toInt8.toInt32)), (nar .byte (c1.toInt8.toInt32))])) (some (.ref b1)) T3.heap _ := ⟨b1, rfl, N3, K3, sz_b1, low_b1, f0_3⟩
  refine own_retR X3 hx hlk hP rfl rfl hrt (hb hby own_dcb2_58) (by decide) (by decide) ?_
  exact hfin
theorem own_dcl2_0 : decode jdk_52_method_15_code 0 = .ok (.iload_n 1, 1) := by decide +kernel
theorem own_dcl2_1 : decode jdk_52_method_15_code 1 = .ok (.aload_n 0, 1) := by decide +kernel
theorem own_dcl2_2 : decode jdk_52_method_15_code 2 = .ok (.arraylength, 1) := by decide +kernel
theorem own_dcl2_3 : decode jdk_52_method_15_code 3 = .ok (.isub, 1) := by decide +kernel
theorem own_dcl2_4 : decode jdk_52_method_15_code 4 = .ok (.bipush 31, 2) := by decide +kernel
theorem own_dcl2_6 : decode jdk_52_method_15_code 6 = .ok (.iushr, 1) := by decide +kernel
theorem own_dcl2_7 : decode jdk_52_method_15_code 7 = .ok (.i2b, 1) := by decide +kernel
theorem own_dcl2_8 : decode jdk_52_method_15_code 8 = .ok (.ireturn, 1) := by decide +kernel
theorem own_efcl2 (m : MethodId) (o0 : Addr) : entryFrame m #[(.ref o0), (.int (2 : Int32))] 2 = mkF m 0 #[.val (.ref o0), .val (.int (2 : Int32))] [] := by first | (simp [entryFrame, mkF, argsToLocals, Value.category]; done) | rfl
set_option maxRecDepth 65536 in
set_option maxHeartbeats 40000000 in
theorem own_mcl2 (l : Launch) (Z : State) (a0 : Array Value) (hw : ∀ d ∈ tables_1, d.before a0 Z = true) (ws : List Jvm.Cond) (o0 : Addr) (c0 : Int32) (c1 : Int32) (h0 : Heap) (n0 : Nat) (Z0 : n0 ≤ h0.size) (A_o0 : own_BA Z h0 o0 [c0, c1]) :
    own_Met l Z (⟨"java/lang/StringUTF16", "coderFromArrayLen", "([BI)B"⟩ : MethodName) jdk_52_method_15_code 2 (some .byte) ws ({ frames := 0, cells := 0, slots := 0, locals := 0 } : Room) #[(.ref o0), (.int (2 : Int32))] h0 (fun (v : Option Value) (h : Heap) (L : List Loc) => v = some (.int (0 : Int32)) ∧ Fr n0 L ∧ h = h0) := by
  refine own_enter (plainFor_of_name own_pn_java_lang_StringUTF16) ?_
  intro p e s m below meth c s₁ P hx hby hml hrt hlk hown hnm hZ X0 e0 hP
  have N0 := Fr.nil n0
  have K0 := Keep.refl h0 []
  have hml' : c.maxLocals = 2 := hml
  refine own_cast (own_efcl2 m o0) ?_
  show own_End p e below P (s₁.setTop (mkF m 0 #[.val (.ref o0), .val (.int (2 : Int32))] []))
  refine own_st (fun _ => XS.iloadN X0.here hx rfl (hb hby own_dcl2_0) rfl) ?_
  show own_End p e below P (s₁.setTop (mkF m 1 #[.val (.ref o0), .val (.int (2 : Int32))] [(.int (2 : Int32))]))
  refine own_st (fun _ => XS.aloadN X0.here hx rfl (hb hby own_dcl2_1) rfl rfl) ?_
  show own_End p e below P (s₁.setTop (mkF m 2 #[.val (.ref o0), .val (.int (2 : Int32))] [(.ref o0), (.int (2 : Int32))]))
  refine own_alenB X0 hx hZ e0 A_o0 (g := (mkF m 2 #[.val (.ref o0), .val (.int (2 : Int32))] [(.ref o0), (.int (2 : Int32))])) rfl rfl (hb hby own_dcl2_2) ?_
  show own_End p e below P (s₁.setTop (mkF m 3 #[.val (.ref o0), .val (.int (2 : Int32))] [(.int (2 : Int32)), (.int (2 : Int32))]))
  refine own_st (fun _ => XS.isub X0.here hx rfl (hb hby own_dcl2_3) rfl) ?_
  show own_End p e below P (s₁.setTop (mkF m 4 #[.val (.ref o0), .val (.int (2 : Int32))] [(.int (0 : Int32))]))
  refine own_st (fun _ => XS.bipush X0.here hx rfl (hb hby own_dcl2_4)) ?_
  show own_End p e below P (s₁.setTop (mkF m 6 #[.val (.ref o0), .val (.int (2 : Int32))] [(.int (31 : Int32)), (.int (0 : Int32))]))
  refine own_st (fun _ => XS.iushr X0.here hx rfl (hb hby own_dcl2_6) rfl) ?_
  show own_End p e below P (s₁.setTop (mkF m 7 #[.val (.ref o0), .val (.int (2 : Int32))] [(.int (((0 : Int32).toUInt32 >>> ((31 : Int32) &&& 31).toUInt32).toInt32))]))
  refine own_st (fun _ => XS.i2b X0.here hx rfl (hb hby own_dcl2_7) rfl) ?_
  show own_End p e below P (s₁.setTop (mkF m 8 #[.val (.ref o0), .val (.int (2 : Int32))] [(.int ((((0 : Int32).toUInt32 >>> ((31 : Int32) &&& 31).toUInt32).toInt32).toInt8.toInt32))]))
  rw [show ((((0 : Int32).toUInt32 >>> ((31 : Int32) &&& 31).toUInt32).toInt32).toInt8.toInt32) = (0 : Int32) from by decide]
  show own_End p e below P (s₁.setTop (mkF m 8 #[.val (.ref o0), .val (.int (2 : Int32))] [(.int (0 : Int32))]))
  exact own_retN X0 hx hlk hP (t := .byte) (by simp) hrt (hb hby own_dcl2_8) (by decide) (by decide) ⟨rfl, N0, e0⟩
theorem own_dcb3_0 : decode jdk_52_method_16_code 0 = .ok (.iload_n 2, 1) := by decide +kernel
theorem own_dcb3_1 : decode jdk_52_method_16_code 1 = .ok (.newarray .byte, 2) := by decide +kernel
theorem own_dcb3_3 : decode jdk_52_method_16_code 3 = .ok (.astore_n 3, 1) := by decide +kernel
theorem own_dcb3_4 : decode jdk_52_method_16_code 4 = .ok (.aload_n 0, 1) := by decide +kernel
theorem own_dcb3_5 : decode jdk_52_method_16_code 5 = .ok (.iload_n 1, 1) := by decide +kernel
theorem own_dcb3_6 : decode jdk_52_method_16_code 6 = .ok (.aload_n 3, 1) := by decide +kernel
theorem own_dcb3_7 : decode jdk_52_method_16_code 7 = .ok (.iconst 0, 1) := by decide +kernel
theorem own_dcb3_8 : decode jdk_52_method_16_code 8 = .ok (.iload_n 2, 1) := by decide +kernel
theorem own_dcb3_9 : decode jdk_52_method_16_code 9 = .ok (.invokestatic 115, 3) := by decide +kernel
theorem own_dcb3_12 : decode jdk_52_method_16_code 12 = .ok (.istore 4, 2) := by decide +kernel
theorem own_dcb3_14 : decode jdk_52_method_16_code 14 = .ok (.iload 4, 2) := by decide +kernel
theorem own_dcb3_16 : decode jdk_52_method_16_code 16 = .ok (.iload_n 2, 1) := by decide +kernel
theorem own_dcb3_17 : decode jdk_52_method_16_code 17 = .ok (.if_icmp .eq 40, 3) := by decide +kernel
theorem own_dcb3_57 : decode jdk_52_method_16_code 57 = .ok (.aload_n 3, 1) := by decide +kernel
theorem own_dcb3_58 : decode jdk_52_method_16_code 58 = .ok (.areturn, 1) := by decide +kernel
theorem own_efcb3 (m : MethodId) (o0 : Addr) : entryFrame m #[(.ref o0), (.int (0 : Int32)), (.int (3 : Int32))] 6 = mkF m 0 #[.val (.ref o0), .val (.int (0 : Int32)), .val (.int (3 : Int32)), .unset, .unset, .unset] [] := by first | (simp [entryFrame, mkF, argsToLocals, Value.category]; done) | rfl
set_option maxRecDepth 65536 in
set_option maxHeartbeats 40000000 in
theorem own_mcb3 (l : Launch) (Z : State) (a0 : Array Value) (hw : ∀ d ∈ tables_1, d.before a0 Z = true) (ws : List Jvm.Cond) (o0 : Addr) (c0 : Int32) (c1 : Int32) (c2 : Int32) (h0 : Heap) (n0 : Nat) (Z0 : n0 ≤ h0.size) (A_o0 : own_CA Z h0 o0 [c0, c1, c2]) (hi0 : ¬ ((255 : Int32) < c0)) (hi1 : ¬ ((255 : Int32) < c1)) (hi2 : ¬ ((255 : Int32) < c2)) :
    own_Met l Z (⟨"java/lang/StringUTF16", "compress", "([CII)[B"⟩ : MethodName) jdk_52_method_16_code 6 (some (.array .byte)) ws ({ frames := 1, cells := 1, slots := 3, locals := 18 } : Room) #[(.ref o0), (.int (0 : Int32)), (.int (3 : Int32))] h0 (fun (v : Option Value) (h : Heap) (L : List Loc) => ∃ (b1 : Addr), v = some (.ref b1) ∧ Fr n0 L ∧ Keep h0 h [] ∧ h0.size ≤ b1 ∧ n0 ≤ b1 ∧ own_BA Z h b1 [(nar .byte (c0.toInt8.toInt32)), (nar .byte (c1.toInt8.toInt32)), (nar .byte (c2.toInt8.toInt32))]) := by
  refine own_enter (plainFor_of_name own_pn_java_lang_StringUTF16) ?_
  intro p e s m below meth c s₁ P hx hby hml hrt hlk hown hnm hZ X0 e0 hP
  have N0 := Fr.nil n0
  have K0 := Keep.refl h0 []
  have hml' : c.maxLocals = 6 := hml
  refine own_cast (own_efcb3 m o0) ?_
  show own_End p e below P (s₁.setTop (mkF m 0 #[.val (.ref o0), .val (.int (0 : Int32)), .val (.int (3 : Int32)), .unset, .unset, .unset] []))
  refine own_st (fun _ => XS.iloadN X0.here hx rfl (hb hby own_dcb3_0) rfl) ?_
  show own_End p e below P (s₁.setTop (mkF m 1 #[.val (.ref o0), .val (.int (0 : Int32)), .val (.int (3 : Int32)), .unset, .unset, .unset] [(.int (3 : Int32))]))
  refine own_newB X0 hx hZ (hw _ (List.mem_of_getElem? (i := 19) rfl)) e0 (j := (3 : Int32)) (n := 3) (by decide) 3 (by decide) (by decide) (by decide) (by decide) (g := (mkF m 1 #[.val (.ref o0), .val (.int (0 : Int32)), .val (.int (3 : Int32)), .unset, .unset, .unset] [(.int (3 : Int32))])) rfl rfl (hb hby own_dcb3_1) (fun T1 h1 X1 e1 E1 B1 => ?_)
  obtain ⟨b1, g1⟩ : ∃ z, z = h0.size := ⟨_, rfl⟩
  rw [← g1] at B1 ⊢
  have ne2 : o0 ≠ b1 := Nat.ne_of_lt (Nat.lt_of_lt_of_le A_o0.lt (Nat.le_of_eq g1.symm))
  have low_b1 : n0 ≤ b1 := Nat.le_trans (Nat.le_trans Z0 K0.1) (Nat.le_of_eq g1.symm)
  have sz_b1 : h0.size ≤ b1 := Nat.le_trans K0.1 (Nat.le_of_eq g1.symm)
  have K1 := Keep.ext K0 E1
  have A1 : own_BA Z h1 b1 [(0 : Int32), (0 : Int32), (0 : Int32)] := B1
  show own_End p e below P (T1.setTop (mkF m 3 #[.val (.ref o0), .val (.int (0 : Int32)), .val (.int (3 : Int32)), .unset, .unset, .unset] [(.ref b1)]))
  refine own_st (fun _ => XS.astoreN X1.here hx rfl (hb hby own_dcb3_3) rfl rfl (l' := #[.val (.ref o0), .val (.int (0 : Int32)), .val (.int (3 : Int32)), .val (.ref b1), .unset, .unset]) rfl) ?_
  show own_End p e below P (T1.setTop (mkF m 4 #[.val (.ref o0), .val (.int (0 : Int32)), .val (.int (3 : Int32)), .val (.ref b1), .unset, .unset] []))
  refine own_st (fun _ => XS.aloadN X1.here hx rfl (hb hby own_dcb3_4) rfl rfl) ?_
  show own_End p e below P (T1.setTop (mkF m 5 #[.val (.ref o0), .val (.int (0 : Int32)), .val (.int (3 : Int32)), .val (.ref b1), .unset, .unset] [(.ref o0)]))
  refine own_st (fun _ => XS.iloadN X1.here hx rfl (hb hby own_dcb3_5) rfl) ?_
  show own_End p e below P (T1.setTop (mkF m 6 #[.val (.ref o0), .val (.int (0 : Int32)), .val (.int (3 : Int32)), .val (.ref b1), .unset, .unset] [(.int (0 : Int32)), (.ref o0)]))
  refine own_st (fun _ => XS.aloadN X1.here hx rfl (hb hby own_dcb3_6) rfl rfl) ?_
  show own_End p e below P (T1.setTop (mkF m 7 #[.val (.ref o0), .val (.int (0 : Int32)), .val (.int (3 : Int32)), .val (.ref b1), .unset, .unset] [(.ref b1), (.int (0 : Int32)), (.ref o0)]))
  refine own_st (fun _ => XS.iconst X1.here hx rfl (hb hby own_dcb3_7)) ?_
  show own_End p e below P (T1.setTop (mkF m 8 #[.val (.ref o0), .val (.int (0 : Int32)), .val (.int (3 : Int32)), .val (.ref b1), .unset, .unset] [(.int (0 : Int32)), (.ref b1), (.int (0 : Int32)), (.ref o0)]))
  refine own_st (fun _ => XS.iloadN X1.here hx rfl (hb hby own_dcb3_8) rfl) ?_
  show own_End p e below P (T1.setTop (mkF m 9 #[.val (.ref o0), .val (.int (0 : Int32)), .val (.int (3 : Int32)), .val (.ref b1), .unset, .unset] [(.int (3 : Int32)), (.int (0 : Int32)), (.ref b1), (.int (0 : Int32)), (.ref o0)]))
  have G4 := (A_o0.ext E1)
  refine own_callS X1 hx hZ (y := (⟨"java/lang/StringUTF16", "compress", "([CI[BII)I"⟩ : MethodName)) hown (hw _ (List.mem_of_getElem? (i := 31) rfl)) (hw _ (List.mem_of_getElem? (i := 32) rfl)) (hw _ (List.mem_of_getElem? (i := 29) rfl)) (hw _ (List.mem_of_getElem? (i := 33) rfl)) (by decide) (own_mcp3 l Z a0 hw [] o0 b1 c0 c1 c2 h1 n0 (Nat.le_trans Z0 K1.1) G4 A1 low_b1 ne2 hi0 hi1 hi2) 0 (by decide) (by decide) e1 (by decide) (by decide) (g := (mkF m 9 #[.val (.ref o0), .val (.int (0 : Int32)), .val (.int (3 : Int32)), .val (.ref b1), .unset, .unset] [(.int (3 : Int32)), (.int (0 : Int32)), (.ref b1), (.int (0 : Int32)), (.ref o0)])) rfl (by rw [hml']; rfl) (argsL := [(.ref o0), (.int (0 : Int32)), (.ref b1), (.int (0 : Int32)), (.int (3 : Int32))]) (rest := []) rfl (lenOf own_pd_CI_BII_I_688 rfl) rfl (by show 2 * 0 + _ ≤ _; exact Nat.le_of_eq rfl) (hb hby own_dcb3_9) (fun r3 T3 L3 X3 hQ3 => ?_)
  obtain ⟨rfl, Nq3, Kq3, f0_3⟩ := hQ3
  have N3 := Fr.app N0 Nq3
  have K3 := Keep.trans K1 Kq3 (allS (Or.inr sz_b1) all0)
  show own_End p e below P (T3.setTop (mkF m 12 #[.val (.ref o0), .val (.int (0 : Int32)), .val (.int (3 : Int32)), .val (.ref b1), .unset, .unset] [(.int (3 : Int32))]))
  refine own_st (fun _ => XS.istore X3.here hx rfl (hb hby own_dcb3_12) rfl (l' := #[.val (.ref o0), .val (.int (0 : Int32)), .val (.int (3 : Int32)), .val (.ref b1), .val (.int (3 : Int32)), .unset]) rfl) ?_
  show own_End p e below P (T3.setTop (mkF m 14 #[.val (.ref o0), .val (.int (0 : Int32)), .val (.int (3 : Int32)), .val (.ref b1), .val (.int (3 : Int32)), .unset] []))
  refine own_st (fun _ => XS.iload X3.here hx rfl (hb hby own_dcb3_14) rfl) ?_
  show own_End p e below P (T3.setTop (mkF m 16 #[.val (.ref o0), .val (.int (0 : Int32)), .val (.int (3 : Int32)), .val (.ref b1), .val (.int (3 : Int32)), .unset] [(.int (3 : Int32))]))
  refine own_st (fun _ => XS.iloadN X3.here hx rfl (hb hby own_dcb3_16) rfl) ?_
  show own_End p e below P (T3.setTop (mkF m 17 #[.val (.ref o0), .val (.int (0 : Int32)), .val (.int (3 : Int32)), .val (.ref b1), .val (.int (3 : Int32)), .unset] [(.int (3 : Int32)), (.int (3 : Int32))]))
  refine own_st (fun _ => XS.icmpYes X3.here hx rfl (pc0 := 17) (pc' := 57) rfl (hb hby own_dcb3_17) rfl (teq (by decide : (3 : Int32) = (3 : Int32))).1 (by decide) (by decide)) ?_
  show own_End p e below P (T3.setTop (mkF m 57 #[.val (.ref o0), .val (.int (0 : Int32)), .val (.int (3 : Int32)), .val (.ref b1), .val (.int (3 : Int32)), .unset] []))
  refine own_st (fun _ => XS.aloadN X3.here hx rfl (hb hby own_dcb3_57) rfl rfl) ?_
  show own_End p e below P (T3.setTop (mkF m 58 #[.val (.ref o0), .val (.int (0 : Int32)), .val (.int (3 : Int32)), .val (.ref b1), .val (.int (3 : Int32)), .unset] [(.ref b1)]))
  have hfin : ((fun (v : Option Value) (h : Heap) (L : List Loc) => ∃ (b1 : Addr), v = some (.ref b1) ∧ Fr n0 L ∧ Keep h0 h [] ∧ h0.size ≤ b1 ∧ n0 ≤ b1 ∧ own_BA Z h b1 [(nar .byte (c0.toInt8.toInt32)), (nar .byte (c1.toInt8.toInt32)), (nar .byte (c2.toInt8.toInt32))])) (some (.ref b1)) T3.heap _ := ⟨b1, rfl, N3, K3, sz_b1, low_b1, f0_3⟩
  refine own_retR X3 hx hlk hP rfl rfl hrt (hb hby own_dcb3_58) (by decide) (by decide) ?_
  exact hfin
theorem own_dcl3_0 : decode jdk_52_method_15_code 0 = .ok (.iload_n 1, 1) := by decide +kernel
theorem own_dcl3_1 : decode jdk_52_method_15_code 1 = .ok (.aload_n 0, 1) := by decide +kernel
theorem own_dcl3_2 : decode jdk_52_method_15_code 2 = .ok (.arraylength, 1) := by decide +kernel
theorem own_dcl3_3 : decode jdk_52_method_15_code 3 = .ok (.isub, 1) := by decide +kernel
theorem own_dcl3_4 : decode jdk_52_method_15_code 4 = .ok (.bipush 31, 2) := by decide +kernel
theorem own_dcl3_6 : decode jdk_52_method_15_code 6 = .ok (.iushr, 1) := by decide +kernel
theorem own_dcl3_7 : decode jdk_52_method_15_code 7 = .ok (.i2b, 1) := by decide +kernel
theorem own_dcl3_8 : decode jdk_52_method_15_code 8 = .ok (.ireturn, 1) := by decide +kernel
theorem own_efcl3 (m : MethodId) (o0 : Addr) : entryFrame m #[(.ref o0), (.int (3 : Int32))] 2 = mkF m 0 #[.val (.ref o0), .val (.int (3 : Int32))] [] := by first | (simp [entryFrame, mkF, argsToLocals, Value.category]; done) | rfl
set_option maxRecDepth 65536 in
set_option maxHeartbeats 40000000 in
theorem own_mcl3 (l : Launch) (Z : State) (a0 : Array Value) (hw : ∀ d ∈ tables_1, d.before a0 Z = true) (ws : List Jvm.Cond) (o0 : Addr) (c0 : Int32) (c1 : Int32) (c2 : Int32) (h0 : Heap) (n0 : Nat) (Z0 : n0 ≤ h0.size) (A_o0 : own_BA Z h0 o0 [c0, c1, c2]) :
    own_Met l Z (⟨"java/lang/StringUTF16", "coderFromArrayLen", "([BI)B"⟩ : MethodName) jdk_52_method_15_code 2 (some .byte) ws ({ frames := 0, cells := 0, slots := 0, locals := 0 } : Room) #[(.ref o0), (.int (3 : Int32))] h0 (fun (v : Option Value) (h : Heap) (L : List Loc) => v = some (.int (0 : Int32)) ∧ Fr n0 L ∧ h = h0) := by
  refine own_enter (plainFor_of_name own_pn_java_lang_StringUTF16) ?_
  intro p e s m below meth c s₁ P hx hby hml hrt hlk hown hnm hZ X0 e0 hP
  have N0 := Fr.nil n0
  have K0 := Keep.refl h0 []
  have hml' : c.maxLocals = 2 := hml
  refine own_cast (own_efcl3 m o0) ?_
  show own_End p e below P (s₁.setTop (mkF m 0 #[.val (.ref o0), .val (.int (3 : Int32))] []))
  refine own_st (fun _ => XS.iloadN X0.here hx rfl (hb hby own_dcl3_0) rfl) ?_
  show own_End p e below P (s₁.setTop (mkF m 1 #[.val (.ref o0), .val (.int (3 : Int32))] [(.int (3 : Int32))]))
  refine own_st (fun _ => XS.aloadN X0.here hx rfl (hb hby own_dcl3_1) rfl rfl) ?_
  show own_End p e below P (s₁.setTop (mkF m 2 #[.val (.ref o0), .val (.int (3 : Int32))] [(.ref o0), (.int (3 : Int32))]))
  refine own_alenB X0 hx hZ e0 A_o0 (g := (mkF m 2 #[.val (.ref o0), .val (.int (3 : Int32))] [(.ref o0), (.int (3 : Int32))])) rfl rfl (hb hby own_dcl3_2) ?_
  show own_End p e below P (s₁.setTop (mkF m 3 #[.val (.ref o0), .val (.int (3 : Int32))] [(.int (3 : Int32)), (.int (3 : Int32))]))
  refine own_st (fun _ => XS.isub X0.here hx rfl (hb hby own_dcl3_3) rfl) ?_
  show own_End p e below P (s₁.setTop (mkF m 4 #[.val (.ref o0), .val (.int (3 : Int32))] [(.int (0 : Int32))]))
  refine own_st (fun _ => XS.bipush X0.here hx rfl (hb hby own_dcl3_4)) ?_
  show own_End p e below P (s₁.setTop (mkF m 6 #[.val (.ref o0), .val (.int (3 : Int32))] [(.int (31 : Int32)), (.int (0 : Int32))]))
  refine own_st (fun _ => XS.iushr X0.here hx rfl (hb hby own_dcl3_6) rfl) ?_
  show own_End p e below P (s₁.setTop (mkF m 7 #[.val (.ref o0), .val (.int (3 : Int32))] [(.int (((0 : Int32).toUInt32 >>> ((31 : Int32) &&& 31).toUInt32).toInt32))]))
  refine own_st (fun _ => XS.i2b X0.here hx rfl (hb hby own_dcl3_7) rfl) ?_
  show own_End p e below P (s₁.setTop (mkF m 8 #[.val (.ref o0), .val (.int (3 : Int32))] [(.int ((((0 : Int32).toUInt32 >>> ((31 : Int32) &&& 31).toUInt32).toInt32).toInt8.toInt32))]))
  rw [show ((((0 : Int32).toUInt32 >>> ((31 : Int32) &&& 31).toUInt32).toInt32).toInt8.toInt32) = (0 : Int32) from by decide]
  show own_End p e below P (s₁.setTop (mkF m 8 #[.val (.ref o0), .val (.int (3 : Int32))] [(.int (0 : Int32))]))
  exact own_retN X0 hx hlk hP (t := .byte) (by simp) hrt (hb hby own_dcl3_8) (by decide) (by decide) ⟨rfl, N0, e0⟩
theorem own_din1_0 : decode jdk_42_method_149_code 0 = .ok (.aload_n 0, 1) := by decide +kernel
theorem own_din1_1 : decode jdk_42_method_149_code 1 = .ok (.invokespecial 1, 3) := by decide +kernel
theorem own_din1_4 : decode jdk_42_method_149_code 4 = .ok (.iload_n 3, 1) := by decide +kernel
theorem own_din1_5 : decode jdk_42_method_149_code 5 = .ok (.ifCond .ne 22, 3) := by decide +kernel
theorem own_din1_27 : decode jdk_42_method_149_code 27 = .ok (.getstatic 38, 3) := by decide +kernel
theorem own_din1_30 : decode jdk_42_method_149_code 30 = .ok (.ifCond .eq 28, 3) := by decide +kernel
theorem own_din1_33 : decode jdk_42_method_149_code 33 = .ok (.aload_n 1, 1) := by decide +kernel
theorem own_din1_34 : decode jdk_42_method_149_code 34 = .ok (.iload_n 2, 1) := by decide +kernel
theorem own_din1_35 : decode jdk_42_method_149_code 35 = .ok (.iload_n 3, 1) := by decide +kernel
theorem own_din1_36 : decode jdk_42_method_149_code 36 = .ok (.invokestatic 177, 3) := by decide +kernel
theorem own_pd_CII__B_542 : parseMethodDescriptor "([CII)[B" = some ⟨[(.array .char), .int, .int], some (.array .byte)⟩ := by decide +kernel
theorem own_din1_39 : decode jdk_42_method_149_code 39 = .ok (.astore 5, 2) := by decide +kernel
theorem own_din1_41 : decode jdk_42_method_149_code 41 = .ok (.aload_n 0, 1) := by decide +kernel
theorem own_din1_42 : decode jdk_42_method_149_code 42 = .ok (.aload 5, 2) := by decide +kernel
theorem own_din1_44 : decode jdk_42_method_149_code 44 = .ok (.iload_n 3, 1) := by decide +kernel
theorem own_din1_45 : decode jdk_42_method_149_code 45 = .ok (.invokestatic 47, 3) := by decide +kernel
theorem own_pd_BI_B_377 : parseMethodDescriptor "([BI)B" = some ⟨[(.array .byte), .int], some .byte⟩ := by decide +kernel
theorem own_din1_48 : decode jdk_42_method_149_code 48 = .ok (.putfield 15, 3) := by decide +kernel
theorem own_din1_51 : decode jdk_42_method_149_code 51 = .ok (.aload_n 0, 1) := by decide +kernel
theorem own_din1_52 : decode jdk_42_method_149_code 52 = .ok (.aload 5, 2) := by decide +kernel
theorem own_din1_54 : decode jdk_42_method_149_code 54 = .ok (.putfield 9, 3) := by decide +kernel
theorem own_din1_57 : decode jdk_42_method_149_code 57 = .ok (.return_, 1) := by decide +kernel
theorem own_efin1 (m : MethodId) (o0 : Addr) (o1 : Addr) : entryFrame m #[(.ref o0), (.ref o1), (.int (0 : Int32)), (.int (1 : Int32)), .null] 6 = mkF m 0 #[.val (.ref o0), .val (.ref o1), .val (.int (0 : Int32)), .val (.int (1 : Int32)), .val .null, .unset] [] := by first | (simp [entryFrame, mkF, argsToLocals, Value.category]; done) | rfl
theorem own_pn_java_lang_String : plainName "java/lang/String" = true := by first | (simp [plainName, overriddenIn]; done) | decide +kernel
set_option maxRecDepth 65536 in
set_option maxHeartbeats 40000000 in
theorem own_min1 (l : Launch) (Z : State) (a0 : Array Value) (hw : ∀ d ∈ tables_1, d.before a0 Z = true) (ws : List Jvm.Cond) (o0 : Addr) (o1 : Addr) (c0 : Int32) (s_String_COMPACT_STRINGS : Int32) (h0 : Heap) (n0 : Nat) (Z0 : n0 ≤ h0.size) (E_o0 : Exa Z h0 o0 "java/lang/String") (F_o0_value : Fld Z h0 o0 "java/lang/String" "value" "[B" .null) (F_o0_coder : Fld Z h0 o0 "java/lang/String" "coder" "B" (.int (0 : Int32))) (F_o0_hash : Fld Z h0 o0 "java/lang/String" "hash" "I" (.int (0 : Int32))) (F_o0_hashIsZero : Fld Z h0 o0 "java/lang/String" "hashIsZero" "Z" (.int (0 : Int32))) (S_String_COMPACT_STRINGS : Sta Z h0 "java/lang/String" "COMPACT_STRINGS" "Z" (.int s_String_COMPACT_STRINGS)) (A_o1 : own_CA Z h0 o1 [c0]) (low_o0 : n0 ≤ o0) (hi0 : ¬ ((255 : Int32) < c0)) (hnz : ¬ (s_String_COMPACT_STRINGS = (0 : Int32))) :
    own_Met l Z (⟨"java/lang/String", "<init>", "([CIILjava/lang/Void;)V"⟩ : MethodName) jdk_42_method_149_code 6 none ws ({ frames := 2, cells := 1, slots := 1, locals := 35 } : Room) #[(.ref o0), (.ref o1), (.int (0 : Int32)), (.int (1 : Int32)), .null] h0 (fun (v : Option Value) (h : Heap) (L : List Loc) => ∃ (b1_3 : Addr), v = none ∧ Fr n0 L ∧ Keep h0 h [o0] ∧ h0.size ≤ b1_3 ∧ n0 ≤ b1_3 ∧ Exa Z h o0 "java/lang/String" ∧ Fld Z h o0 "java/lang/String" "value" "[B" (.ref b1_3) ∧ Fld Z h o0 "java/lang/String" "coder" "B" (.int (nar .byte (0 : Int32))) ∧ Fld Z h o0 "java/lang/String" "hash" "I" (.int (0 : Int32)) ∧ Fld Z h o0 "java/lang/String" "hashIsZero" "Z" (.int (0 : Int32)) ∧ own_BA Z h b1_3 [(nar .byte (c0.toInt8.toInt32))]) := by
  refine own_enter (plainFor_of_name own_pn_java_lang_String) ?_
  intro p e s m below meth c s₁ P hx hby hml hrt hlk hown hnm hZ X0 e0 hP
  have N0 := Fr.nil n0
  have K0 := Keep.refl h0 [o0]
  have hml' : c.maxLocals = 6 := hml
  refine own_cast (own_efin1 m o0 o1) ?_
  show own_End p e below P (s₁.setTop (mkF m 0 #[.val (.ref o0), .val (.ref o1), .val (.int (0 : Int32)), .val (.int (1 : Int32)), .val .null, .unset] []))
  refine own_st (fun _ => XS.aloadN X0.here hx rfl (hb hby own_din1_0) rfl rfl) ?_
  show own_End p e below P (s₁.setTop (mkF m 1 #[.val (.ref o0), .val (.ref o1), .val (.int (0 : Int32)), .val (.int (1 : Int32)), .val .null, .unset] [(.ref o0)]))
  obtain ⟨T1, X1, e1, st1⟩ := initO X0 hx hZ hown (hw _ (List.mem_of_getElem? (i := 15) rfl)) (hw _ (List.mem_of_getElem? (i := 16) rfl)) (hw _ (List.mem_of_getElem? (i := 17) rfl)) e0 (g := (mkF m 1 #[.val (.ref o0), .val (.ref o1), .val (.int (0 : Int32)), .val (.int (1 : Int32)), .val .null, .unset] [(.ref o0)])) rfl (by rw [hml']; rfl) rfl (hb hby own_din1_1) (by decide) (W := 0) (by show 2 * 0 + _ ≤ _; exact Nat.le_of_eq rfl) (by decide)
  refine own_st (fun _ => st1 _) ?_
  show own_End p e below P (T1.setTop (mkF m 4 #[.val (.ref o0), .val (.ref o1), .val (.int (0 : Int32)), .val (.int (1 : Int32)), .val .null, .unset] []))
  refine own_st (fun _ => XS.iloadN X1.here hx rfl (hb hby own_din1_4) rfl) ?_
  show own_End p e below P (T1.setTop (mkF m 5 #[.val (.ref o0), .val (.ref o1), .val (.int (0 : Int32)), .val (.int (1 : Int32)), .val .null, .unset] [(.int (1 : Int32))]))
  refine own_st (fun _ => XS.ifYes X1.here hx rfl (pc0 := 5) (pc' := 27) rfl (hb hby own_din1_5) rfl ((if0 _ _).trans (feq (by decide : ¬ ((1 : Int32) = (0 : Int32)))).2) (by decide) (by decide)) ?_
  show own_End p e below P (T1.setTop (mkF m 27 #[.val (.ref o0), .val (.ref o1), .val (.int (0 : Int32)), .val (.int (1 : Int32)), .val .null, .unset] []))
  obtain ⟨T2, X2, e2, st2⟩ := getS2 X1 hx hZ hown (host := "") (Or.inl (hw _ (List.mem_of_getElem? (i := 26) rfl))) Via.refl e1 S_String_COMPACT_STRINGS (g := (mkF m 27 #[.val (.ref o0), .val (.ref o1), .val (.int (0 : Int32)), .val (.int (1 : Int32)), .val .null, .unset] [])) rfl (hb hby own_din1_27)
  refine own_st (fun _ => st2 _) ?_
  show own_End p e below P (T2.setTop (mkF m 30 #[.val (.ref o0), .val (.ref o1), .val (.int (0 : Int32)), .val (.int (1 : Int32)), .val .null, .unset] [(.int s_String_COMPACT_STRINGS)]))
  refine own_st (fun _ => XS.ifNo X2.here hx rfl (hb hby own_din1_30) rfl ((if0 _ _).trans (feq hnz).1)) ?_
  show own_End p e below P (T2.setTop (mkF m 33 #[.val (.ref o0), .val (.ref o1), .val (.int (0 : Int32)), .val (.int (1 : Int32)), .val .null, .unset] []))
  refine own_st (fun _ => XS.aloadN X2.here hx rfl (hb hby own_din1_33) rfl rfl) ?_
  show own_End p e below P (T2.setTop (mkF m 34 #[.val (.ref o0), .val (.ref o1), .val (.int (0 : Int32)), .val (.int (1 : Int32)), .val .null, .unset] [(.ref o1)]))
  refine own_st (fun _ => XS.iloadN X2.here hx rfl (hb hby own_din1_34) rfl) ?_
  show own_End p e below P (T2.setTop (mkF m 35 #[.val (.ref o0), .val (.ref o1), .val (.int (0 : Int32)), .val (.int (1 : Int32)), .val .null, .unset] [(.int (0 : Int32)), (.ref o1)]))
  refine own_st (fun _ => XS.iloadN X2.here hx rfl (hb hby own_din1_35) rfl) ?_
  show own_End p e below P (T2.setTop (mkF m 36 #[.val (.ref o0), .val (.ref o1), .val (.int (0 : Int32)), .val (.int (1 : Int32)), .val .null, .unset] [(.int (1 : Int32)), (.int (0 : Int32)), (.ref o1)]))
  refine own_callS X2 hx hZ (y := (⟨"java/lang/StringUTF16", "compress", "([CII)[B"⟩ : MethodName)) hown (hw _ (List.mem_of_getElem? (i := 27) rfl)) (hw _ (List.mem_of_getElem? (i := 28) rfl)) (hw _ (List.mem_of_getElem? (i := 29) rfl)) (hw _ (List.mem_of_getElem? (i := 30) rfl)) (by decide) (own_mcb1 l Z a0 hw [] o1 c0 h0 n0 (Nat.le_trans Z0 K0.1) A_o1 hi0) 0 (by decide) (by decide) e2 (by decide) (by decide) (g := (mkF m 36 #[.val (.ref o0), .val (.ref o1), .val (.int (0 : Int32)), .val (.int (1 : Int32)), .val .null, .unset] [(.int (1 : Int32)), (.int (0 : Int32)), (.ref o1)])) rfl (by rw [hml']; rfl) (argsL := [(.ref o1), (.int (0 : Int32)), (.int (1 : Int32))]) (rest := []) rfl (lenOf own_pd_CII__B_542 rfl) rfl (by show 2 * 0 + _ ≤ _; exact Nat.le_of_eq rfl) (hb hby own_din1_36) (fun r3 T3 L3 X3 hQ3 => ?_)
  obtain ⟨b1_3, rfl, Nq3, Kq3, szq_b1_3, low_b1_3, f0_3⟩ := hQ3
  have N3 := Fr.app N0 Nq3
  have ne4 : o0 ≠ b1_3 := Nat.ne_of_lt (Nat.lt_of_lt_of_le E_o0.lt szq_b1_3)
  have ne5 : o1 ≠ b1_3 := Nat.ne_of_lt (Nat.lt_of_lt_of_le A_o1.lt szq_b1_3)
  have sz_b1_3 := Nat.le_trans K0.1 szq_b1_3
  have K3 := Keep.trans K0 Kq3 all0
  show own_End p e below P (T3.setTop (mkF m 39 #[.val (.ref o0), .val (.ref o1), .val (.int (0 : Int32)), .val (.int (1 : Int32)), .val .null, .unset] [(.ref b1_3)]))
  refine own_st (fun _ => XS.astore X3.here hx rfl (hb hby own_din1_39) rfl rfl (l' := #[.val (.ref o0), .val (.ref o1), .val (.int (0 : Int32)), .val (.int (1 : Int32)), .val .null, .val (.ref b1_3)]) rfl) ?_
  show own_End p e below P (T3.setTop (mkF m 41 #[.val (.ref o0), .val (.ref o1), .val (.int (0 : Int32)), .val (.int (1 : Int32)), .val .null, .val (.ref b1_3)] []))
  refine own_st (fun _ => XS.aloadN X3.here hx rfl (hb hby own_din1_41) rfl rfl) ?_
  show own_End p e below P (T3.setTop (mkF m 42 #[.val (.ref o0), .val (.ref o1), .val (.int (0 : Int32)), .val (.int (1 : Int32)), .val .null, .val (.ref b1_3)] [(.ref o0)]))
  refine own_st (fun _ => XS.aload X3.here hx rfl (hb hby own_din1_42) rfl rfl) ?_
  show own_End p e below P (T3.setTop (mkF m 44 #[.val (.ref o0), .val (.ref o1), .val (.int (0 : Int32)), .val (.int (1 : Int32)), .val .null, .val (.ref b1_3)] [(.ref b1_3), (.ref o0)]))
  refine own_st (fun _ => XS.iloadN X3.here hx rfl (hb hby own_din1_44) rfl) ?_
  show own_End p e below P (T3.setTop (mkF m 45 #[.val (.ref o0), .val (.ref o1), .val (.int (0 : Int32)), .val (.int (1 : Int32)), .val .null, .val (.ref b1_3)] [(.int (1 : Int32)), (.ref b1_3), (.ref o0)]))
  refine own_callS X3 hx hZ (y := (⟨"java/lang/StringUTF16", "coderFromArrayLen", "([BI)B"⟩ : MethodName)) hown (hw _ (List.mem_of_getElem? (i := 34) rfl)) (hw _ (List.mem_of_getElem? (i := 35) rfl)) (hw _ (List.mem_of_getElem? (i := 29) rfl)) (hw _ (List.mem_of_getElem? (i := 36) rfl)) (by decide) (own_mcl1 l Z a0 hw [] b1_3 (nar .byte (c0.toInt8.toInt32)) T3.heap n0 (Nat.le_trans Z0 K3.1) f0_3) 1 (by decide) (by decide) rfl (by decide) (by decide) (g := (mkF m 45 #[.val (.ref o0), .val (.ref o1), .val (.int (0 : Int32)), .val (.int (1 : Int32)), .val .null, .val (.ref b1_3)] [(.int (1 : Int32)), (.ref b1_3), (.ref o0)])) rfl (by rw [hml']; rfl) (argsL := [(.ref b1_3), (.int (1 : Int32))]) (rest := [(.ref o0)]) rfl (lenOf own_pd_BI_B_377 rfl) rfl (by show 2 * 0 + _ ≤ _; exact Nat.le_of_eq rfl) (hb hby own_din1_45) (fun r6 T6 L6 X6 hQ6 => ?_)
  obtain ⟨rfl, Nq6, eq6⟩ := hQ6
  have N6 := Fr.app N3 Nq6
  show own_End p e below P (T6.setTop (mkF m 48 #[.val (.ref o0), .val (.ref o1), .val (.int (0 : Int32)), .val (.int (1 : Int32)), .val .null, .val (.ref b1_3)] [(.int (0 : Int32)), (.ref o0)]))
  have G7 := (F_o0_coder.keep Kq3 nin0)
  have G8 := (E_o0.keep Kq3)
  obtain ⟨T9, h9, X9, e9, W9, st9⟩ := putFN X6 hx hZ hown (hw _ (List.mem_of_getElem? (i := 25) rfl)) Via.refl eq6 G7 G8 (Or.inr ⟨(hw _ (List.mem_of_getElem? (i := 21) rfl)), rfl, hnm⟩) (hw _ (List.mem_of_getElem? (i := 5) rfl)) (ty := .byte) (v' := (.int (nar .byte (0 : Int32)))) (by decide) rfl (fits_nar_byte _) (g := (mkF m 48 #[.val (.ref o0), .val (.ref o1), .val (.int (0 : Int32)), .val (.int (1 : Int32)), .val .null, .val (.ref b1_3)] [(.int (0 : Int32)), (.ref o0)])) rfl rfl (hb hby own_din1_48)
  have N9 := Fr.snoc X9 N6 low_o0
  have K9 := Keep.wr K3 W9 (Or.inl (List.mem_of_getElem? (i := 0) rfl))
  have F9 := G7.same W9
  refine own_st (fun _ => st9 _) ?_
  show own_End p e below P (T9.setTop (mkF m 51 #[.val (.ref o0), .val (.ref o1), .val (.int (0 : Int32)), .val (.int (1 : Int32)), .val .null, .val (.ref b1_3)] []))
  refine own_st (fun _ => XS.aloadN X9.here hx rfl (hb hby own_din1_51) rfl rfl) ?_
  show own_End p e below P (T9.setTop (mkF m 52 #[.val (.ref o0), .val (.ref o1), .val (.int (0 : Int32)), .val (.int (1 : Int32)), .val .null, .val (.ref b1_3)] [(.ref o0)]))
  refine own_st (fun _ => XS.aload X9.here hx rfl (hb hby own_din1_52) rfl rfl) ?_
  show own_End p e below P (T9.setTop (mkF m 54 #[.val (.ref o0), .val (.ref o1), .val (.int (0 : Int32)), .val (.int (1 : Int32)), .val .null, .val (.ref b1_3)] [(.ref b1_3), (.ref o0)]))
  have G10 := ((F_o0_value.keep Kq3 nin0).other W9 (Or.inr (slot_ne (Or.inr (hw _ (List.mem_of_getElem? (i := 20) rfl))) (Or.inr (hw _ (List.mem_of_getElem? (i := 21) rfl))) (by decide) (t := (.array .byte)) (t' := .byte) (by decide) (by decide))))
  have G11 := (G8.wr W9)
  obtain ⟨T12, h12, X12, e12, W12, st12⟩ := putF X9 hx hZ hown (host := "") (Or.inl (hw _ (List.mem_of_getElem? (i := 24) rfl))) Via.refl e9 G10 G11 (Or.inr ⟨(hw _ (List.mem_of_getElem? (i := 20) rfl)), rfl, hnm⟩) (hw _ (List.mem_of_getElem? (i := 5) rfl)) (ty := (.array .byte)) (by decide) rfl rfl (g := (mkF m 54 #[.val (.ref o0), .val (.ref o1), .val (.int (0 : Int32)), .val (.int (1 : Int32)), .val .null, .val (.ref b1_3)] [(.ref b1_3), (.ref o0)])) rfl rfl (hb hby own_din1_54)
  have N12 := Fr.snoc X12 N9 low_o0
  have K12 := Keep.wr K9 W12 (Or.inl (List.mem_of_getElem? (i := 0) rfl))
  have F12 := G10.same W12
  refine own_st (fun _ => st12 _) ?_
  show own_End p e below P (T12.setTop (mkF m 57 #[.val (.ref o0), .val (.ref o1), .val (.int (0 : Int32)), .val (.int (1 : Int32)), .val .null, .val (.ref b1_3)] []))
  have G13 := (G11.wr W12)
  have G14 := (F9.other W12 (Or.inr (slot_ne (Or.inr (hw _ (List.mem_of_getElem? (i := 21) rfl))) (Or.inr (hw _ (List.mem_of_getElem? (i := 20) rfl))) (by decide) (t := .byte) (t' := (.array .byte)) (by decide) (by decide))))
  have G15 := (((F_o0_hash.keep Kq3 nin0).other W9 (Or.inr (slot_ne (Or.inl (hw _ (List.mem_of_getElem? (i := 88) rfl))) (Or.inr (hw _ (List.mem_of_getElem? (i := 21) rfl))) (by decide) (t := .int) (t' := .byte) (by decide) (by decide)))).other W12 (Or.inr (slot_ne (Or.inl (hw _ (List.mem_of_getElem? (i := 88) rfl))) (Or.inr (hw _ (List.mem_of_getElem? (i := 20) rfl))) (by decide) (t := .int) (t' := (.array .byte)) (by decide) (by decide))))
  have G16 := (((F_o0_hashIsZero.keep Kq3 nin0).other W9 (Or.inr (slot_ne (Or.inl (hw _ (List.mem_of_getElem? (i := 90) rfl))) (Or.inr (hw _ (List.mem_of_getElem? (i := 21) rfl))) (by decide) (t := .boolean) (t' := .byte) (by decide) (by decide)))).other W12 (Or.inr (slot_ne (Or.inl (hw _ (List.mem_of_getElem? (i := 90) rfl))) (Or.inr (hw _ (List.mem_of_getElem? (i := 20) rfl))) (by decide) (t := .boolean) (t' := (.array .byte)) (by decide) (by decide))))
  have G17 := ((f0_3.other W9 (Ne.symm ne4)).other W12 (Ne.symm ne4))
  have hfin : ((fun (v : Option Value) (h : Heap) (L : List Loc) => ∃ (b1_3 : Addr), v = none ∧ Fr n0 L ∧ Keep h0 h [o0] ∧ h0.size ≤ b1_3 ∧ n0 ≤ b1_3 ∧ Exa Z h o0 "java/lang/String" ∧ Fld Z h o0 "java/lang/String" "value" "[B" (.ref b1_3) ∧ Fld Z h o0 "java/lang/String" "coder" "B" (.int (nar .byte (0 : Int32))) ∧ Fld Z h o0 "java/lang/String" "hash" "I" (.int (0 : Int32)) ∧ Fld Z h o0 "java/lang/String" "hashIsZero" "Z" (.int (0 : Int32)) ∧ own_BA Z h b1_3 [(nar .byte (c0.toInt8.toInt32))])) none h12 _ := ⟨b1_3, rfl, N12, K12, sz_b1_3, low_b1_3, G13, F12, G14, G15, G16, G17⟩
  refine own_retV X12 hx hlk hP hrt (hb hby own_din1_57) (by decide) (by decide) ?_
  rw [e12]; exact hfin
theorem own_dic1_0 : decode jdk_42_method_3_code 0 = .ok (.aload_n 0, 1) := by decide +kernel
theorem own_dic1_1 : decode jdk_42_method_3_code 1 = .ok (.aload_n 1, 1) := by decide +kernel
theorem own_dic1_2 : decode jdk_42_method_3_code 2 = .ok (.iconst 0, 1) := by decide +kernel
theorem own_dic1_3 : decode jdk_42_method_3_code 3 = .ok (.aload_n 1, 1) := by decide +kernel
theorem own_dic1_4 : decode jdk_42_method_3_code 4 = .ok (.arraylength, 1) := by decide +kernel
theorem own_dic1_5 : decode jdk_42_method_3_code 5 = .ok (.aconst_null, 1) := by decide +kernel
theorem own_dic1_6 : decode jdk_42_method_3_code 6 = .ok (.invokespecial 27, 3) := by decide +kernel
theorem own_pd_CIILjava_lang_Void__V_941 : parseMethodDescriptor "([CIILjava/lang/Void;)V" = some ⟨[(.array .char), .int, .int, (.object "java/lang/Void")], none⟩ := by decide +kernel
theorem own_dic1_9 : decode jdk_42_method_3_code 9 = .ok (.return_, 1) := by decide +kernel
theorem own_efic1 (m : MethodId) (o0 : Addr) (o1 : Addr) : entryFrame m #[(.ref o0), (.ref o1)] 2 = mkF m 0 #[.val (.ref o0), .val (.ref o1)] [] := by first | (simp [entryFrame, mkF, argsToLocals, Value.category]; done) | rfl
set_option maxRecDepth 65536 in
set_option maxHeartbeats 40000000 in
theorem own_mic1 (l : Launch) (Z : State) (a0 : Array Value) (hw : ∀ d ∈ tables_1, d.before a0 Z = true) (ws : List Jvm.Cond) (o0 : Addr) (o1 : Addr) (c0 : Int32) (s_String_COMPACT_STRINGS : Int32) (h0 : Heap) (n0 : Nat) (Z0 : n0 ≤ h0.size) (E_o0 : Exa Z h0 o0 "java/lang/String") (F_o0_value : Fld Z h0 o0 "java/lang/String" "value" "[B" .null) (F_o0_coder : Fld Z h0 o0 "java/lang/String" "coder" "B" (.int (0 : Int32))) (F_o0_hash : Fld Z h0 o0 "java/lang/String" "hash" "I" (.int (0 : Int32))) (F_o0_hashIsZero : Fld Z h0 o0 "java/lang/String" "hashIsZero" "Z" (.int (0 : Int32))) (S_String_COMPACT_STRINGS : Sta Z h0 "java/lang/String" "COMPACT_STRINGS" "Z" (.int s_String_COMPACT_STRINGS)) (A_o1 : own_CA Z h0 o1 [c0]) (low_o0 : n0 ≤ o0) (hi0 : ¬ ((255 : Int32) < c0)) (hnz : ¬ (s_String_COMPACT_STRINGS = (0 : Int32))) :
    own_Met l Z (⟨"java/lang/String", "<init>", "([C)V"⟩ : MethodName) jdk_42_method_3_code 2 none ws ({ frames := 3, cells := 1, slots := 1, locals := 52 } : Room) #[(.ref o0), (.ref o1)] h0 (fun (v : Option Value) (h : Heap) (L : List Loc) => ∃ (b1_3_1 : Addr), v = none ∧ Fr n0 L ∧ Keep h0 h [o0] ∧ h0.size ≤ b1_3_1 ∧ n0 ≤ b1_3_1 ∧ Exa Z h o0 "java/lang/String" ∧ Fld Z h o0 "java/lang/String" "value" "[B" (.ref b1_3_1) ∧ Fld Z h o0 "java/lang/String" "coder" "B" (.int (nar .byte (0 : Int32))) ∧ Fld Z h o0 "java/lang/String" "hash" "I" (.int (0 : Int32)) ∧ Fld Z h o0 "java/lang/String" "hashIsZero" "Z" (.int (0 : Int32)) ∧ own_BA Z h b1_3_1 [(nar .byte (c0.toInt8.toInt32))]) := by
  refine own_enter (plainFor_of_name own_pn_java_lang_String) ?_
  intro p e s m below meth c s₁ P hx hby hml hrt hlk hown hnm hZ X0 e0 hP
  have N0 := Fr.nil n0
  have K0 := Keep.refl h0 [o0]
  have hml' : c.maxLocals = 2 := hml
  refine own_cast (own_efic1 m o0 o1) ?_
  show own_End p e below P (s₁.setTop (mkF m 0 #[.val (.ref o0), .val (.ref o1)] []))
  refine own_st (fun _ => XS.aloadN X0.here hx rfl (hb hby own_dic1_0) rfl rfl) ?_
  show own_End p e below P (s₁.setTop (mkF m 1 #[.val (.ref o0), .val (.ref o1)] [(.ref o0)]))
  refine own_st (fun _ => XS.aloadN X0.here hx rfl (hb hby own_dic1_1) rfl rfl) ?_
  show own_End p e below P (s₁.setTop (mkF m 2 #[.val (.ref o0), .val (.ref o1)] [(.ref o1), (.ref o0)]))
  refine own_st (fun _ => XS.iconst X0.here hx rfl (hb hby own_dic1_2)) ?_
  show own_End p e below P (s₁.setTop (mkF m 3 #[.val (.ref o0), .val (.ref o1)] [(.int (0 : Int32)), (.ref o1), (.ref o0)]))
  refine own_st (fun _ => XS.aloadN X0.here hx rfl (hb hby own_dic1_3) rfl rfl) ?_
  show own_End p e below P (s₁.setTop (mkF m 4 #[.val (.ref o0), .val (.ref o1)] [(.ref o1), (.int (0 : Int32)), (.ref o1), (.ref o0)]))
  refine own_alenC X0 hx hZ e0 A_o1 (g := (mkF m 4 #[.val (.ref o0), .val (.ref o1)] [(.ref o1), (.int (0 : Int32)), (.ref o1), (.ref o0)])) rfl rfl (hb hby own_dic1_4) ?_
  show own_End p e below P (s₁.setTop (mkF m 5 #[.val (.ref o0), .val (.ref o1)] [(.int (1 : Int32)), (.int (0 : Int32)), (.ref o1), (.ref o0)]))
  refine own_st (fun _ => XS.aconstNull X0.here hx rfl (hb hby own_dic1_5)) ?_
  show own_End p e below P (s₁.setTop (mkF m 6 #[.val (.ref o0), .val (.ref o1)] [.null, (.int (1 : Int32)), (.int (0 : Int32)), (.ref o1), (.ref o0)]))
  refine own_callI X0 hx hZ (y := (⟨"java/lang/String", "<init>", "([CIILjava/lang/Void;)V"⟩ : MethodName)) rfl hown (hw _ (List.mem_of_getElem? (i := 11) rfl)) (hw _ (List.mem_of_getElem? (i := 12) rfl)) (hw _ (List.mem_of_getElem? (i := 6) rfl)) (hw _ (List.mem_of_getElem? (i := 14) rfl)) (by decide) (own_min1 l Z a0 hw [] o0 o1 c0 s_String_COMPACT_STRINGS h0 n0 (Nat.le_trans Z0 K0.1) E_o0 F_o0_value F_o0_coder F_o0_hash F_o0_hashIsZero S_String_COMPACT_STRINGS A_o1 low_o0 hi0 hnz) 0 (by decide) (by decide) e0 (by decide) (by decide) (g := (mkF m 6 #[.val (.ref o0), .val (.ref o1)] [.null, (.int (1 : Int32)), (.int (0 : Int32)), (.ref o1), (.ref o0)])) rfl (by rw [hml']; rfl) (a := o0) (argsL := [(.ref o1), (.int (0 : Int32)), (.int (1 : Int32)), .null]) (rest := []) rfl (lenOf own_pd_CIILjava_lang_Void__V_941 rfl) rfl (by show 2 * 0 + _ ≤ _; exact Nat.le_of_eq rfl) (hb hby own_dic1_6) (fun r1 T1 L1 X1 hQ1 => ?_)
  obtain ⟨b1_3_1, rfl, Nq1, Kq1, szq_b1_3_1, low_b1_3_1, f0_1, f1_1, f2_1, f3_1, f4_1, f5_1⟩ := hQ1
  have N1 := Fr.app N0 Nq1
  have ne2 : o0 ≠ b1_3_1 := Nat.ne_of_lt (Nat.lt_of_lt_of_le E_o0.lt szq_b1_3_1)
  have ne3 : o1 ≠ b1_3_1 := Nat.ne_of_lt (Nat.lt_of_lt_of_le A_o1.lt szq_b1_3_1)
  have sz_b1_3_1 := Nat.le_trans K0.1 szq_b1_3_1
  have K1 := Keep.trans K0 Kq1 (allS (Or.inl (List.mem_of_getElem? (i := 0) rfl)) all0)
  show own_End p e below P (T1.setTop (mkF m 9 #[.val (.ref o0), .val (.ref o1)] []))
  have hfin : ((fun (v : Option Value) (h : Heap) (L : List Loc) => ∃ (b1_3_1 : Addr), v = none ∧ Fr n0 L ∧ Keep h0 h [o0] ∧ h0.size ≤ b1_3_1 ∧ n0 ≤ b1_3_1 ∧ Exa Z h o0 "java/lang/String" ∧ Fld Z h o0 "java/lang/String" "value" "[B" (.ref b1_3_1) ∧ Fld Z h o0 "java/lang/String" "coder" "B" (.int (nar .byte (0 : Int32))) ∧ Fld Z h o0 "java/lang/String" "hash" "I" (.int (0 : Int32)) ∧ Fld Z h o0 "java/lang/String" "hashIsZero" "Z" (.int (0 : Int32)) ∧ own_BA Z h b1_3_1 [(nar .byte (c0.toInt8.toInt32))])) none T1.heap _ := ⟨b1_3_1, rfl, N1, K1, sz_b1_3_1, low_b1_3_1, f0_1, f1_1, f2_1, f3_1, f4_1, f5_1⟩
  refine own_retV X1 hx hlk hP hrt (hb hby own_dic1_9) (by decide) (by decide) ?_
  exact hfin
theorem own_din2_0 : decode jdk_42_method_149_code 0 = .ok (.aload_n 0, 1) := by decide +kernel
theorem own_din2_1 : decode jdk_42_method_149_code 1 = .ok (.invokespecial 1, 3) := by decide +kernel
theorem own_din2_4 : decode jdk_42_method_149_code 4 = .ok (.iload_n 3, 1) := by decide +kernel
theorem own_din2_5 : decode jdk_42_method_149_code 5 = .ok (.ifCond .ne 22, 3) := by decide +kernel
theorem own_din2_27 : decode jdk_42_method_149_code 27 = .ok (.getstatic 38, 3) := by decide +kernel
theorem own_din2_30 : decode jdk_42_method_149_code 30 = .ok (.ifCond .eq 28, 3) := by decide +kernel
theorem own_din2_33 : decode jdk_42_method_149_code 33 = .ok (.aload_n 1, 1) := by decide +kernel
theorem own_din2_34 : decode jdk_42_method_149_code 34 = .ok (.iload_n 2, 1) := by decide +kernel
theorem own_din2_35 : decode jdk_42_method_149_code 35 = .ok (.iload_n 3, 1) := by decide +kernel
theorem own_din2_36 : decode jdk_42_method_149_code 36 = .ok (.invokestatic 177, 3) := by decide +kernel
theorem own_din2_39 : decode jdk_42_method_149_code 39 = .ok (.astore 5, 2) := by decide +kernel
theorem own_din2_41 : decode jdk_42_method_149_code 41 = .ok (.aload_n 0, 1) := by decide +kernel
theorem own_din2_42 : decode jdk_42_method_149_code 42 = .ok (.aload 5, 2) := by decide +kernel
theorem own_din2_44 : decode jdk_42_method_149_code 44 = .ok (.iload_n 3, 1) := by decide +kernel
theorem own_din2_45 : decode jdk_42_method_149_code 45 = .ok (.invokestatic 47, 3) := by decide +kernel
theorem own_din2_48 : decode jdk_42_method_149_code 48 = .ok (.putfield 15, 3) := by decide +kernel
theorem own_din2_51 : decode jdk_42_method_149_code 51 = .ok (.aload_n 0, 1) := by decide +kernel
theorem own_din2_52 : decode jdk_42_method_149_code 52 = .ok (.aload 5, 2) := by decide +kernel
theorem own_din2_54 : decode jdk_42_method_149_code 54 = .ok (.putfield 9, 3) := by decide +kernel
theorem own_din2_57 : decode jdk_42_method_149_code 57 = .ok (.return_, 1) := by decide +kernel
theorem own_efin2 (m : MethodId) (o0 : Addr) (o1 : Addr) : entryFrame m #[(.ref o0), (.ref o1), (.int (0 : Int32)), (.int (2 : Int32)), .null] 6 = mkF m 0 #[.val (.ref o0), .val (.ref o1), .val (.int (0 : Int32)), .val (.int (2 : Int32)), .val .null, .unset] [] := by first | (simp [entryFrame, mkF, argsToLocals, Value.category]; done) | rfl
set_option maxRecDepth 65536 in
set_option maxHeartbeats 40000000 in
theorem own_min2 (l : Launch) (Z : State) (a0 : Array Value) (hw : ∀ d ∈ tables_1, d.before a0 Z = true) (ws : List Jvm.Cond) (o0 : Addr) (o1 : Addr) (c0 : Int32) (c1 : Int32) (s_String_COMPACT_STRINGS : Int32) (h0 : Heap) (n0 : Nat) (Z0 : n0 ≤ h0.size) (E_o0 : Exa Z h0 o0 "java/lang/String") (F_o0_value : Fld Z h0 o0 "java/lang/String" "value" "[B" .null) (F_o0_coder : Fld Z h0 o0 "java/lang/String" "coder" "B" (.int (0 : Int32))) (F_o0_hash : Fld Z h0 o0 "java/lang/String" "hash" "I" (.int (0 : Int32))) (F_o0_hashIsZero : Fld Z h0 o0 "java/lang/String" "hashIsZero" "Z" (.int (0 : Int32))) (S_String_COMPACT_STRINGS : Sta Z h0 "java/lang/String" "COMPACT_STRINGS" "Z" (.int s_String_COMPACT_STRINGS)) (A_o1 : own_CA Z h0 o1 [c0, c1]) (low_o0 : n0 ≤ o0) (hi0 : ¬ ((255 : Int32) < c0)) (hi1 : ¬ ((255 : Int32) < c1)) (hnz : ¬ (s_String_COMPACT_STRINGS = (0 : Int32))) :
    own_Met l Z (⟨"java/lang/String", "<init>", "([CIILjava/lang/Void;)V"⟩ : MethodName) jdk_42_method_149_code 6 none ws ({ frames := 2, cells := 1, slots := 2, locals := 35 } : Room) #[(.ref o0), (.ref o1), (.int (0 : Int32)), (.int (2 : Int32)), .null] h0 (fun (v : Option Value) (h : Heap) (L : List Loc) => ∃ (b1_3 : Addr), v = none ∧ Fr n0 L ∧ Keep h0 h [o0] ∧ h0.size ≤ b1_3 ∧ n0 ≤ b1_3 ∧ Exa Z h o0 "java/lang/String" ∧ Fld Z h o0 "java/lang/String" "value" "[B" (.ref b1_3) ∧ Fld Z h o0 "java/lang/String" "coder" "B" (.int (nar .byte (0 : Int32))) ∧ Fld Z h o0 "java/lang/String" "hash" "I" (.int (0 : Int32)) ∧ Fld Z h o0 "java/lang/String" "hashIsZero" "Z" (.int (0 : Int32)) ∧ own_BA Z h b1_3 [(nar .byte (c0.toInt8.toInt32)), (nar .byte (c1.toInt8.toInt32))]) := by
  refine own_enter (plainFor_of_name own_pn_java_lang_String) ?_
  intro p e s m below meth c s₁ P hx hby hml hrt hlk hown hnm hZ X0 e0 hP
  have N0 := Fr.nil n0
  have K0 := Keep.refl h0 [o0]
  have hml' : c.maxLocals = 6 := hml
  refine own_cast (own_efin2 m o0 o1) ?_
  show own_End p e below P (s₁.setTop (mkF m 0 #[.val (.ref o0), .val (.ref o1), .val (.int (0 : Int32)), .val (.int (2 : Int32)), .val .null, .unset] []))
  refine own_st (fun _ => XS.aloadN X0.here hx rfl (hb hby own_din2_0) rfl rfl) ?_
  show own_End p e below P (s₁.setTop (mkF m 1 #[.val (.ref o0), .val (.ref o1), .val (.int (0 : Int32)), .val (.int (2 : Int32)), .val .null, .unset] [(.ref o0)]))
  obtain ⟨T1, X1, e1, st1⟩ := initO X0 hx hZ hown (hw _ (List.mem_of_getElem? (i := 15) rfl)) (hw _ (List.mem_of_getElem? (i := 16) rfl)) (hw _ (List.mem_of_getElem? (i := 17) rfl)) e0 (g := (mkF m 1 #[.val (.ref o0), .val (.ref o1), .val (.int (0 : Int32)), .val (.int (2 : Int32)), .val .null, .unset] [(.ref o0)])) rfl (by rw [hml']; rfl) rfl (hb hby own_din2_1) (by decide) (W := 0) (by show 2 * 0 + _ ≤ _; exact Nat.le_of_eq rfl) (by decide)
  refine own_st (fun _ => st1 _) ?_
  show own_End p e below P (T1.setTop (mkF m 4 #[.val (.ref o0), .val (.ref o1), .val (.int (0 : Int32)), .val (.int (2 : Int32)), .val .null, .unset] []))
  refine own_st (fun _ => XS.iloadN X1.here hx rfl (hb hby own_din2_4) rfl) ?_
  show own_End p e below P (T1.setTop (mkF m 5 #[.val (.ref o0), .val (.ref o1), .val (.int (0 : Int32)), .val (.int (2 : Int32)), .val .null, .unset] [(.int (2 : Int32))]))
  refine own_st (fun _ => XS.ifYes X1.here hx rfl (pc0 := 5) (pc' := 27) rfl (hb hby own_din2_5) rfl ((if0 _ _).trans (feq (by decide : ¬ ((2 : Int32) = (0 : Int32)))).2) (by decide) (by decide)) ?_
  show own_End p e below P (T1.setTop (mkF m 27 #[.val (.ref o0), .val (.ref o1), .val (.int (0 : Int32)), .val (.int (2 : Int32)), .val .null, .unset] []))
  obtain ⟨T2, X2, e2, st2⟩ := getS2 X1 hx hZ hown (host := "") (Or.inl (hw _ (List.mem_of_getElem? (i := 26) rfl))) Via.refl e1 S_String_COMPACT_STRINGS (g := (mkF m 27 #[.val (.ref o0), .val (.ref o1), .val (.int (0 : Int32)), .val (.int (2 : Int32)), .val .null, .unset] [])) rfl (hb hby own_din2_27)
  refine own_st (fun _ => st2 _) ?_
  show own_End p e below P (T2.setTop (mkF m 30 #[.val (.ref o0), .val (.ref o1), .val (.int (0 : Int32)), .val (.int (2 : Int32)), .val .null, .unset] [(.int s_String_COMPACT_STRINGS)]))
  refine own_st (fun _ => XS.ifNo X2.here hx rfl (hb hby own_din2_30) rfl ((if0 _ _).trans (feq hnz).1)) ?_
  show own_End p e below P (T2.setTop (mkF m 33 #[.val (.ref o0), .val (.ref o1), .val (.int (0 : Int32)), .val (.int (2 : Int32)), .val .null, .unset] []))
  refine own_st (fun _ => XS.aloadN X2.here hx rfl (hb hby own_din2_33) rfl rfl) ?_
  show own_End p e below P (T2.setTop (mkF m 34 #[.val (.ref o0), .val (.ref o1), .val (.int (0 : Int32)), .val (.int (2 : Int32)), .val .null, .unset] [(.ref o1)]))
  refine own_st (fun _ => XS.iloadN X2.here hx rfl (hb hby own_din2_34) rfl) ?_
  show own_End p e below P (T2.setTop (mkF m 35 #[.val (.ref o0), .val (.ref o1), .val (.int (0 : Int32)), .val (.int (2 : Int32)), .val .null, .unset] [(.int (0 : Int32)), (.ref o1)]))
  refine own_st (fun _ => XS.iloadN X2.here hx rfl (hb hby own_din2_35) rfl) ?_
  show own_End p e below P (T2.setTop (mkF m 36 #[.val (.ref o0), .val (.ref o1), .val (.int (0 : Int32)), .val (.int (2 : Int32)), .val .null, .unset] [(.int (2 : Int32)), (.int (0 : Int32)), (.ref o1)]))
  refine own_callS X2 hx hZ (y := (⟨"java/lang/StringUTF16", "compress", "([CII)[B"⟩ : MethodName)) hown (hw _ (List.mem_of_getElem? (i := 27) rfl)) (hw _ (List.mem_of_getElem? (i := 28) rfl)) (hw _ (List.mem_of_getElem? (i := 29) rfl)) (hw _ (List.mem_of_getElem? (i := 30) rfl)) (by decide) (own_mcb2 l Z a0 hw [] o1 c0 c1 h0 n0 (Nat.le_trans Z0 K0.1) A_o1 hi0 hi1) 0 (by decide) (by decide) e2 (by decide) (by decide) (g := (mkF m 36 #[.val (.ref o0), .val (.ref o1), .val (.int (0 : Int32)), .val (.int (2 : Int32)), .val .null, .unset] [(.int (2 : Int32)), (.int (0 : Int32)), (.ref o1)])) rfl (by rw [hml']; rfl) (argsL := [(.ref o1), (.int (0 : Int32)), (.int (2 : Int32))]) (rest := []) rfl (lenOf own_pd_CII__B_542 rfl) rfl (by show 2 * 0 + _ ≤ _; exact Nat.le_of_eq rfl) (hb hby own_din2_36) (fun r3 T3 L3 X3 hQ3 => ?_)
  obtain ⟨b1_3, rfl, Nq3, Kq3, szq_b1_3, low_b1_3, f0_3⟩ := hQ3
  have N3 := Fr.app N0 Nq3
  have ne4 : o0 ≠ b1_3 := Nat.ne_of_lt (Nat.lt_of_lt_of_le E_o0.lt szq_b1_3)
  have ne5 : o1 ≠ b1_3 := Nat.ne_of_lt (Nat.lt_of_lt_of_le A_o1.lt szq_b1_3)
  have sz_b1_3 := Nat.le_trans K0.1 szq_b1_3
  have K3 := Keep.trans K0 Kq3 all0
  show own_End p e below P (T3.setTop (mkF m 39 #[.val (.ref o0), .val (.ref o1), .val (.int (0 : Int32)), .val (.int (2 : Int32)), .val .null, .unset] [(.ref b1_3)]))
  refine own_st (fun _ => XS.astore X3.here hx rfl (hb hby own_din2_39) rfl rfl (l' := #[.val (.ref o0), .val (.ref o1), .val (.int (0 : Int32)), .val (.int (2 : Int32)), .val .null, .val (.ref b1_3)]) rfl) ?_
  show own_End p e below P (T3.setTop (mkF m 41 #[.val (.ref o0), .val (.ref o1), .val (.int (0 : Int32)), .val (.int (2 : Int32)), .val .null, .val (.ref b1_3)] []))
  refine own_st (fun _ => XS.aloadN X3.here hx rfl (hb hby own_din2_41) rfl rfl) ?_
  show own_End p e below P (T3.setTop (mkF m 42 #[.val (.ref o0), .val (.ref o1), .val (.int (0 : Int32)), .val (.int (2 : Int32)), .val .null, .val (.ref b1_3)] [(.ref o0)]))
  refine own_st (fun _ => XS.aload X3.here hx rfl (hb hby own_din2_42) rfl rfl) ?_
  show own_End p e below P (T3.setTop (mkF m 44 #[.val (.ref o0), .val (.ref o1), .val (.int (0 : Int32)), .val (.int (2 : Int32)), .val .null, .val (.ref b1_3)] [(.ref b1_3), (.ref o0)]))
  refine own_st (fun _ => XS.iloadN X3.here hx rfl (hb hby own_din2_44) rfl) ?_
  show own_End p e below P (T3.setTop (mkF m 45 #[.val (.ref o0), .val (.ref o1), .val (.int (0 : Int32)), .val (.int (2 : Int32)), .val .null, .val (.ref b1_3)] [(.int (2 : Int32)), (.ref b1_3), (.ref o0)]))
  refine own_callS X3 hx hZ (y := (⟨"java/lang/StringUTF16", "coderFromArrayLen", "([BI)B"⟩ : MethodName)) hown (hw _ (List.mem_of_getElem? (i := 34) rfl)) (hw _ (List.mem_of_getElem? (i := 35) rfl)) (hw _ (List.mem_of_getElem? (i := 29) rfl)) (hw _ (List.mem_of_getElem? (i := 36) rfl)) (by decide) (own_mcl2 l Z a0 hw [] b1_3 (nar .byte (c0.toInt8.toInt32)) (nar .byte (c1.toInt8.toInt32)) T3.heap n0 (Nat.le_trans Z0 K3.1) f0_3) 1 (by decide) (by decide) rfl (by decide) (by decide) (g := (mkF m 45 #[.val (.ref o0), .val (.ref o1), .val (.int (0 : Int32)), .val (.int (2 : Int32)), .val .null, .val (.ref b1_3)] [(.int (2 : Int32)), (.ref b1_3), (.ref o0)])) rfl (by rw [hml']; rfl) (argsL := [(.ref b1_3), (.int (2 : Int32))]) (rest := [(.ref o0)]) rfl (lenOf own_pd_BI_B_377 rfl) rfl (by show 2 * 0 + _ ≤ _; exact Nat.le_of_eq rfl) (hb hby own_din2_45) (fun r6 T6 L6 X6 hQ6 => ?_)
  obtain ⟨rfl, Nq6, eq6⟩ := hQ6
  have N6 := Fr.app N3 Nq6
  show own_End p e below P (T6.setTop (mkF m 48 #[.val (.ref o0), .val (.ref o1), .val (.int (0 : Int32)), .val (.int (2 : Int32)), .val .null, .val (.ref b1_3)] [(.int (0 : Int32)), (.ref o0)]))
  have G7 := (F_o0_coder.keep Kq3 nin0)
  have G8 := (E_o0.keep Kq3)
  obtain ⟨T9, h9, X9, e9, W9, st9⟩ := putFN X6 hx hZ hown (hw _ (List.mem_of_getElem? (i := 25) rfl)) Via.refl eq6 G7 G8 (Or.inr ⟨(hw _ (List.mem_of_getElem? (i := 21) rfl)), rfl, hnm⟩) (hw _ (List.mem_of_getElem? (i := 5) rfl)) (ty := .byte) (v' := (.int (nar .byte (0 : Int32)))) (by decide) rfl (fits_nar_byte _) (g := (mkF m 48 #[.val (.ref o0), .val (.ref o1), .val (.int (0 : Int32)), .val (.int (2 : Int32)), .val .null, .val (.ref b1_3)] [(.int (0 : Int32)), (.ref o0)])) rfl rfl (hb hby own_din2_48)
  have N9 := Fr.snoc X9 N6 low_o0
  have K9 := Keep.wr K3 W9 (Or.inl (List.mem_of_getElem? (i := 0) rfl))
  have F9 := G7.same W9
  refine own_st (fun _ => st9 _) ?_
  show own_End p e below P (T9.setTop (mkF m 51 #[.val (.ref o0), .val (.ref o1), .val (.int (0 : Int32)), .val (.int (2 : Int32)), .val .null, .val (.ref b1_3)] []))
  refine own_st (fun _ => XS.aloadN X9.here hx rfl (hb hby own_din2_51) rfl rfl) ?_
  show own_End p e below P (T9.setTop (mkF m 52 #[.val (.ref o0), .val (.ref o1), .val (.int (0 : Int32)), .val (.int (2 : Int32)), .val .null, .val (.ref b1_3)] [(.ref o0)]))
  refine own_st (fun _ => XS.aload X9.here hx rfl (hb hby own_din2_52) rfl rfl) ?_
  show own_End p e below P (T9.setTop (mkF m 54 #[.val (.ref o0), .val (.ref o1), .val (.int (0 : Int32)), .val (.int (2 : Int32)), .val .null, .val (.ref b1_3)] [(.ref b1_3), (.ref o0)]))
  have G10 := ((F_o0_value.keep Kq3 nin0).other W9 (Or.inr (slot_ne (Or.inr (hw _ (List.mem_of_getElem? (i := 20) rfl))) (Or.inr (hw _ (List.mem_of_getElem? (i := 21) rfl))) (by decide) (t := (.array .byte)) (t' := .byte) (by decide) (by decide))))
  have G11 := (G8.wr W9)
  obtain ⟨T12, h12, X12, e12, W12, st12⟩ := putF X9 hx hZ hown (host := "") (Or.inl (hw _ (List.mem_of_getElem? (i := 24) rfl))) Via.refl e9 G10 G11 (Or.inr ⟨(hw _ (List.mem_of_getElem? (i := 20) rfl)), rfl, hnm⟩) (hw _ (List.mem_of_getElem? (i := 5) rfl)) (ty := (.array .byte)) (by decide) rfl rfl (g := (mkF m 54 #[.val (.ref o0), .val (.ref o1), .val (.int (0 : Int32)), .val (.int (2 : Int32)), .val .null, .val (.ref b1_3)] [(.ref b1_3), (.ref o0)])) rfl rfl (hb hby own_din2_54)
  have N12 := Fr.snoc X12 N9 low_o0
  have K12 := Keep.wr K9 W12 (Or.inl (List.mem_of_getElem? (i := 0) rfl))
  have F12 := G10.same W12
  refine own_st (fun _ => st12 _) ?_
  show own_End p e below P (T12.setTop (mkF m 57 #[.val (.ref o0), .val (.ref o1), .val (.int (0 : Int32)), .val (.int (2 : Int32)), .val .null, .val (.ref b1_3)] []))
  have G13 := (G11.wr W12)
  have G14 := (F9.other W12 (Or.inr (slot_ne (Or.inr (hw _ (List.mem_of_getElem? (i := 21) rfl))) (Or.inr (hw _ (List.mem_of_getElem? (i := 20) rfl))) (by decide) (t := .byte) (t' := (.array .byte)) (by decide) (by decide))))
  have G15 := (((F_o0_hash.keep Kq3 nin0).other W9 (Or.inr (slot_ne (Or.inl (hw _ (List.mem_of_getElem? (i := 88) rfl))) (Or.inr (hw _ (List.mem_of_getElem? (i := 21) rfl))) (by decide) (t := .int) (t' := .byte) (by decide) (by decide)))).other W12 (Or.inr (slot_ne (Or.inl (hw _ (List.mem_of_getElem? (i := 88) rfl))) (Or.inr (hw _ (List.mem_of_getElem? (i := 20) rfl))) (by decide) (t := .int) (t' := (.array .byte)) (by decide) (by decide))))
  have G16 := (((F_o0_hashIsZero.keep Kq3 nin0).other W9 (Or.inr (slot_ne (Or.inl (hw _ (List.mem_of_getElem? (i := 90) rfl))) (Or.inr (hw _ (List.mem_of_getElem? (i := 21) rfl))) (by decide) (t := .boolean) (t' := .byte) (by decide) (by decide)))).other W12 (Or.inr (slot_ne (Or.inl (hw _ (List.mem_of_getElem? (i := 90) rfl))) (Or.inr (hw _ (List.mem_of_getElem? (i := 20) rfl))) (by decide) (t := .boolean) (t' := (.array .byte)) (by decide) (by decide))))
  have G17 := ((f0_3.other W9 (Ne.symm ne4)).other W12 (Ne.symm ne4))
  have hfin : ((fun (v : Option Value) (h : Heap) (L : List Loc) => ∃ (b1_3 : Addr), v = none ∧ Fr n0 L ∧ Keep h0 h [o0] ∧ h0.size ≤ b1_3 ∧ n0 ≤ b1_3 ∧ Exa Z h o0 "java/lang/String" ∧ Fld Z h o0 "java/lang/String" "value" "[B" (.ref b1_3) ∧ Fld Z h o0 "java/lang/String" "coder" "B" (.int (nar .byte (0 : Int32))) ∧ Fld Z h o0 "java/lang/String" "hash" "I" (.int (0 : Int32)) ∧ Fld Z h o0 "java/lang/String" "hashIsZero" "Z" (.int (0 : Int32)) ∧ own_BA Z h b1_3 [(nar .byte (c0.toInt8.toInt32)), (nar .byte (c1.toInt8.toInt32))])) none h12 _ := ⟨b1_3, rfl, N12, K12, sz_b1_3, low_b1_3, G13, F12, G14, G15, G16, G17⟩
  refine own_retV X12 hx hlk hP hrt (hb hby own_din2_57) (by decide) (by decide) ?_
  rw [e12]; exact hfin
theorem own_dic2_0 : decode jdk_42_method_3_code 0 = .ok (.aload_n 0, 1) := by decide +kernel
theorem own_dic2_1 : decode jdk_42_method_3_code 1 = .ok (.aload_n 1, 1) := by decide +kernel
theorem own_dic2_2 : decode jdk_42_method_3_code 2 = .ok (.iconst 0, 1) := by decide +kernel
theorem own_dic2_3 : decode jdk_42_method_3_code 3 = .ok (.aload_n 1, 1) := by decide +kernel
theorem own_dic2_4 : decode jdk_42_method_3_code 4 = .ok (.arraylength, 1) := by decide +kernel
theorem own_dic2_5 : decode jdk_42_method_3_code 5 = .ok (.aconst_null, 1) := by decide +kernel
theorem own_dic2_6 : decode jdk_42_method_3_code 6 = .ok (.invokespecial 27, 3) := by decide +kernel
theorem own_dic2_9 : decode jdk_42_method_3_code 9 = .ok (.return_, 1) := by decide +kernel
theorem own_efic2 (m : MethodId) (o0 : Addr) (o1 : Addr) : entryFrame m #[(.ref o0), (.ref o1)] 2 = mkF m 0 #[.val (.ref o0), .val (.ref o1)] [] := by first | (simp [entryFrame, mkF, argsToLocals, Value.category]; done) | rfl
set_option maxRecDepth 65536 in
set_option maxHeartbeats 40000000 in
theorem own_mic2 (l : Launch) (Z : State) (a0 : Array Value) (hw : ∀ d ∈ tables_1, d.before a0 Z = true) (ws : List Jvm.Cond) (o0 : Addr) (o1 : Addr) (c0 : Int32) (c1 : Int32) (s_String_COMPACT_STRINGS : Int32) (h0 : Heap) (n0 : Nat) (Z0 : n0 ≤ h0.size) (E_o0 : Exa Z h0 o0 "java/lang/String") (F_o0_value : Fld Z h0 o0 "java/lang/String" "value" "[B" .null) (F_o0_coder : Fld Z h0 o0 "java/lang/String" "coder" "B" (.int (0 : Int32))) (F_o0_hash : Fld Z h0 o0 "java/lang/String" "hash" "I" (.int (0 : Int32))) (F_o0_hashIsZero : Fld Z h0 o0 "java/lang/String" "hashIsZero" "Z" (.int (0 : Int32))) (S_String_COMPACT_STRINGS : Sta Z h0 "java/lang/String" "COMPACT_STRINGS" "Z" (.int s_String_COMPACT_STRINGS)) (A_o1 : own_CA Z h0 o1 [c0, c1]) (low_o0 : n0 ≤ o0) (hi0 : ¬ ((255 : Int32) < c0)) (hi1 : ¬ ((255 : Int32) < c1)) (hnz : ¬ (s_String_COMPACT_STRINGS = (0 : Int32))) :
    own_Met l Z (⟨"java/lang/String", "<init>", "([C)V"⟩ : MethodName) jdk_42_method_3_code 2 none ws ({ frames := 3, cells := 1, slots := 2, locals := 52 } : Room) #[(.ref o0), (.ref o1)] h0 (fun (v : Option Value) (h : Heap) (L : List Loc) => ∃ (b1_3_1 : Addr), v = none ∧ Fr n0 L ∧ Keep h0 h [o0] ∧ h0.size ≤ b1_3_1 ∧ n0 ≤ b1_3_1 ∧ Exa Z h o0 "java/lang/String" ∧ Fld Z h o0 "java/lang/String" "value" "[B" (.ref b1_3_1) ∧ Fld Z h o0 "java/lang/String" "coder" "B" (.int (nar .byte (0 : Int32))) ∧ Fld Z h o0 "java/lang/String" "hash" "I" (.int (0 : Int32)) ∧ Fld Z h o0 "java/lang/String" "hashIsZero" "Z" (.int (0 : Int32)) ∧ own_BA Z h b1_3_1 [(nar .byte (c0.toInt8.toInt32)), (nar .byte (c1.toInt8.toInt32))]) := by
  refine own_enter (plainFor_of_name own_pn_java_lang_String) ?_
  intro p e s m below meth c s₁ P hx hby hml hrt hlk hown hnm hZ X0 e0 hP
  have N0 := Fr.nil n0
  have K0 := Keep.refl h0 [o0]
  have hml' : c.maxLocals = 2 := hml
  refine own_cast (own_efic2 m o0 o1) ?_
  show own_End p e below P (s₁.setTop (mkF m 0 #[.val (.ref o0), .val (.ref o1)] []))
  refine own_st (fun _ => XS.aloadN X0.here hx rfl (hb hby own_dic2_0) rfl rfl) ?_
  show own_End p e below P (s₁.setTop (mkF m 1 #[.val (.ref o0), .val (.ref o1)] [(.ref o0)]))
  refine own_st (fun _ => XS.aloadN X0.here hx rfl (hb hby own_dic2_1) rfl rfl) ?_
  show own_End p e below P (s₁.setTop (mkF m 2 #[.val (.ref o0), .val (.ref o1)] [(.ref o1), (.ref o0)]))
  refine own_st (fun _ => XS.iconst X0.here hx rfl (hb hby own_dic2_2)) ?_
  show own_End p e below P (s₁.setTop (mkF m 3 #[.val (.ref o0), .val (.ref o1)] [(.int (0 : Int32)), (.ref o1), (.ref o0)]))
  refine own_st (fun _ => XS.aloadN X0.here hx rfl (hb hby own_dic2_3) rfl rfl) ?_
  show own_End p e below P (s₁.setTop (mkF m 4 #[.val (.ref o0), .val (.ref o1)] [(.ref o1), (.int (0 : Int32)), (.ref o1), (.ref o0)]))
  refine own_alenC X0 hx hZ e0 A_o1 (g := (mkF m 4 #[.val (.ref o0), .val (.ref o1)] [(.ref o1), (.int (0 : Int32)), (.ref o1), (.ref o0)])) rfl rfl (hb hby own_dic2_4) ?_
  show own_End p e below P (s₁.setTop (mkF m 5 #[.val (.ref o0), .val (.ref o1)] [(.int (2 : Int32)), (.int (0 : Int32)), (.ref o1), (.ref o0)]))
  refine own_st (fun _ => XS.aconstNull X0.here hx rfl (hb hby own_dic2_5)) ?_
  show own_End p e below P (s₁.setTop (mkF m 6 #[.val (.ref o0), .val (.ref o1)] [.null, (.int (2 : Int32)), (.int (0 : Int32)), (.ref o1), (.ref o0)]))
  refine own_callI X0 hx hZ (y := (⟨"java/lang/String", "<init>", "([CIILjava/lang/Void;)V"⟩ : MethodName)) rfl hown (hw _ (List.mem_of_getElem? (i := 11) rfl)) (hw _ (List.mem_of_getElem? (i := 12) rfl)) (hw _ (List.mem_of_getElem? (i := 6) rfl)) (hw _ (List.mem_of_getElem? (i := 14) rfl)) (by decide) (own_min2 l Z a0 hw [] o0 o1 c0 c1 s_String_COMPACT_STRINGS h0 n0 (Nat.le_trans Z0 K0.1) E_o0 F_o0_value F_o0_coder F_o0_hash F_o0_hashIsZero S_String_COMPACT_STRINGS A_o1 low_o0 hi0 hi1 hnz) 0 (by decide) (by decide) e0 (by decide) (by decide) (g := (mkF m 6 #[.val (.ref o0), .val (.ref o1)] [.null, (.int (2 : Int32)), (.int (0 : Int32)), (.ref o1), (.ref o0)])) rfl (by rw [hml']; rfl) (a := o0) (argsL := [(.ref o1), (.int (0 : Int32)), (.int (2 : Int32)), .null]) (rest := []) rfl (lenOf own_pd_CIILjava_lang_Void__V_941 rfl) rfl (by show 2 * 0 + _ ≤ _; exact Nat.le_of_eq rfl) (hb hby own_dic2_6) (fun r1 T1 L1 X1 hQ1 => ?_)
  obtain ⟨b1_3_1, rfl, Nq1, Kq1, szq_b1_3_1, low_b1_3_1, f0_1, f1_1, f2_1, f3_1, f4_1, f5_1⟩ := hQ1
  have N1 := Fr.app N0 Nq1
  have ne2 : o0 ≠ b1_3_1 := Nat.ne_of_lt (Nat.lt_of_lt_of_le E_o0.lt szq_b1_3_1)
  have ne3 : o1 ≠ b1_3_1 := Nat.ne_of_lt (Nat.lt_of_lt_of_le A_o1.lt szq_b1_3_1)
  have sz_b1_3_1 := Nat.le_trans K0.1 szq_b1_3_1
  have K1 := Keep.trans K0 Kq1 (allS (Or.inl (List.mem_of_getElem? (i := 0) rfl)) all0)
  show own_End p e below P (T1.setTop (mkF m 9 #[.val (.ref o0), .val (.ref o1)] []))
  have hfin : ((fun (v : Option Value) (h : Heap) (L : List Loc) => ∃ (b1_3_1 : Addr), v = none ∧ Fr n0 L ∧ Keep h0 h [o0] ∧ h0.size ≤ b1_3_1 ∧ n0 ≤ b1_3_1 ∧ Exa Z h o0 "java/lang/String" ∧ Fld Z h o0 "java/lang/String" "value" "[B" (.ref b1_3_1) ∧ Fld Z h o0 "java/lang/String" "coder" "B" (.int (nar .byte (0 : Int32))) ∧ Fld Z h o0 "java/lang/String" "hash" "I" (.int (0 : Int32)) ∧ Fld Z h o0 "java/lang/String" "hashIsZero" "Z" (.int (0 : Int32)) ∧ own_BA Z h b1_3_1 [(nar .byte (c0.toInt8.toInt32)), (nar .byte (c1.toInt8.toInt32))])) none T1.heap _ := ⟨b1_3_1, rfl, N1, K1, sz_b1_3_1, low_b1_3_1, f0_1, f1_1, f2_1, f3_1, f4_1, f5_1⟩
  refine own_retV X1 hx hlk hP hrt (hb hby own_dic2_9) (by decide) (by decide) ?_
  exact hfin
theorem own_din3_0 : decode jdk_42_method_149_code 0 = .ok (.aload_n 0, 1) := by decide +kernel
theorem own_din3_1 : decode jdk_42_method_149_code 1 = .ok (.invokespecial 1, 3) := by decide +kernel
theorem own_din3_4 : decode jdk_42_method_149_code 4 = .ok (.iload_n 3, 1) := by decide +kernel
theorem own_din3_5 : decode jdk_42_method_149_code 5 = .ok (.ifCond .ne 22, 3) := by decide +kernel
theorem own_din3_27 : decode jdk_42_method_149_code 27 = .ok (.getstatic 38, 3) := by decide +kernel
theorem own_din3_30 : decode jdk_42_method_149_code 30 = .ok (.ifCond .eq 28, 3) := by decide +kernel
theorem own_din3_33 : decode jdk_42_method_149_code 33 = .ok (.aload_n 1, 1) := by decide +kernel
theorem own_din3_34 : decode jdk_42_method_149_code 34 = .ok (.iload_n 2, 1) := by decide +kernel
theorem own_din3_35 : decode jdk_42_method_149_code 35 = .ok (.iload_n 3, 1) := by decide +kernel
theorem own_din3_36 : decode jdk_42_method_149_code 36 = .ok (.invokestatic 177, 3) := by decide +kernel
theorem own_din3_39 : decode jdk_42_method_149_code 39 = .ok (.astore 5, 2) := by decide +kernel
theorem own_din3_41 : decode jdk_42_method_149_code 41 = .ok (.aload_n 0, 1) := by decide +kernel
theorem own_din3_42 : decode jdk_42_method_149_code 42 = .ok (.aload 5, 2) := by decide +kernel
theorem own_din3_44 : decode jdk_42_method_149_code 44 = .ok (.iload_n 3, 1) := by decide +kernel
theorem own_din3_45 : decode jdk_42_method_149_code 45 = .ok (.invokestatic 47, 3) := by decide +kernel
theorem own_din3_48 : decode jdk_42_method_149_code 48 = .ok (.putfield 15, 3) := by decide +kernel
theorem own_din3_51 : decode jdk_42_method_149_code 51 = .ok (.aload_n 0, 1) := by decide +kernel
theorem own_din3_52 : decode jdk_42_method_149_code 52 = .ok (.aload 5, 2) := by decide +kernel
theorem own_din3_54 : decode jdk_42_method_149_code 54 = .ok (.putfield 9, 3) := by decide +kernel
theorem own_din3_57 : decode jdk_42_method_149_code 57 = .ok (.return_, 1) := by decide +kernel
theorem own_efin3 (m : MethodId) (o0 : Addr) (o1 : Addr) : entryFrame m #[(.ref o0), (.ref o1), (.int (0 : Int32)), (.int (3 : Int32)), .null] 6 = mkF m 0 #[.val (.ref o0), .val (.ref o1), .val (.int (0 : Int32)), .val (.int (3 : Int32)), .val .null, .unset] [] := by first | (simp [entryFrame, mkF, argsToLocals, Value.category]; done) | rfl
set_option maxRecDepth 65536 in
set_option maxHeartbeats 40000000 in
theorem own_min3 (l : Launch) (Z : State) (a0 : Array Value) (hw : ∀ d ∈ tables_1, d.before a0 Z = true) (ws : List Jvm.Cond) (o0 : Addr) (o1 : Addr) (c0 : Int32) (c1 : Int32) (c2 : Int32) (s_String_COMPACT_STRINGS : Int32) (h0 : Heap) (n0 : Nat) (Z0 : n0 ≤ h0.size) (E_o0 : Exa Z h0 o0 "java/lang/String") (F_o0_value : Fld Z h0 o0 "java/lang/String" "value" "[B" .null) (F_o0_coder : Fld Z h0 o0 "java/lang/String" "coder" "B" (.int (0 : Int32))) (F_o0_hash : Fld Z h0 o0 "java/lang/String" "hash" "I" (.int (0 : Int32))) (F_o0_hashIsZero : Fld Z h0 o0 "java/lang/String" "hashIsZero" "Z" (.int (0 : Int32))) (S_String_COMPACT_STRINGS : Sta Z h0 "java/lang/String" "COMPACT_STRINGS" "Z" (.int s_String_COMPACT_STRINGS)) (A_o1 : own_CA Z h0 o1 [c0, c1, c2]) (low_o0 : n0 ≤ o0) (hi0 : ¬ ((255 : Int32) < c0)) (hi1 : ¬ ((255 : Int32) < c1)) (hi2 : ¬ ((255 : Int32) < c2)) (hnz : ¬ (s_String_COMPACT_STRINGS = (0 : Int32))) :
    own_Met l Z (⟨"java/lang/String", "<init>", "([CIILjava/lang/Void;)V"⟩ : MethodName) jdk_42_method_149_code 6 none ws ({ frames := 2, cells := 1, slots := 3, locals := 35 } : Room) #[(.ref o0), (.ref o1), (.int (0 : Int32)), (.int (3 : Int32)), .null] h0 (fun (v : Option Value) (h : Heap) (L : List Loc) => ∃ (b1_3 : Addr), v = none ∧ Fr n0 L ∧ Keep h0 h [o0] ∧ h0.size ≤ b1_3 ∧ n0 ≤ b1_3 ∧ Exa Z h o0 "java/lang/String" ∧ Fld Z h o0 "java/lang/String" "value" "[B" (.ref b1_3) ∧ Fld Z h o0 "java/lang/String" "coder" "B" (.int (nar .byte (0 : Int32))) ∧ Fld Z h o0 "java/lang/String" "hash" "I" (.int (0 : Int32)) ∧ Fld Z h o0 "java/lang/String" "hashIsZero" "Z" (.int (0 : Int32)) ∧ own_BA Z h b1_3 [(nar .byte (c0.toInt8.toInt32)), (nar .byte (c1.toInt8.toInt32)), (nar .byte (c2.toInt8.toInt32))]) := by
  refine own_enter (plainFor_of_name own_pn_java_lang_String) ?_
  intro p e s m below meth c s₁ P hx hby hml hrt hlk hown hnm hZ X0 e0 hP
  have N0 := Fr.nil n0
  have K0 := Keep.refl h0 [o0]
  have hml' : c.maxLocals = 6 := hml
  refine own_cast (own_efin3 m o0 o1) ?_
  show own_End p e below P (s₁.setTop (mkF m 0 #[.val (.ref o0), .val (.ref o1), .val (.int (0 : Int32)), .val (.int (3 : Int32)), .val .null, .unset] []))
  refine own_st (fun _ => XS.aloadN X0.here hx rfl (hb hby own_din3_0) rfl rfl) ?_
  show own_End p e below P (s₁.setTop (mkF m 1 #[.val (.ref o0), .val (.ref o1), .val (.int (0 : Int32)), .val (.int (3 : Int32)), .val .null, .unset] [(.ref o0)]))
  obtain ⟨T1, X1, e1, st1⟩ := initO X0 hx hZ hown (hw _ (List.mem_of_getElem? (i := 15) rfl)) (hw _ (List.mem_of_getElem? (i := 16) rfl)) (hw _ (List.mem_of_getElem? (i := 17) rfl)) e0 (g := (mkF m 1 #[.val (.ref o0), .val (.ref o1), .val (.int (0 : Int32)), .val (.int (3 : Int32)), .val .null, .unset] [(.ref o0)])) rfl (by rw [hml']; rfl) rfl (hb hby own_din3_1) (by decide) (W := 0) (by show 2 * 0 + _ ≤ _; exact Nat.le_of_eq rfl) (by decide)
  refine own_st (fun _ => st1 _) ?_
  show own_End p e below P (T1.setTop (mkF m 4 #[.val (.ref o0), .val (.ref o1), .val (.int (0 : Int32)), .val (.int (3 : Int32)), .val .null, .unset] []))
  refine own_st (fun _ => XS.iloadN X1.here hx rfl (hb hby own_din3_4) rfl) ?_
  show own_End p e below P (T1.setTop (mkF m 5 #[.val (.ref o0), .val (.ref o1), .val (.int (0 : Int32)), .val (.int (3 : Int32)), .val .null, .unset] [(.int (3 : Int32))]))
  refine own_st (fun _ => XS.ifYes X1.here hx rfl (pc0 := 5) (pc' := 27) rfl (hb hby own_din3_5) rfl ((if0 _ _).trans (feq (by decide : ¬ ((3 : Int32) = (0 : Int32)))).2) (by decide) (by decide)) ?_
  show own_End p e below P (T1.setTop (mkF m 27 #[.val (.ref o0), .val (.ref o1), .val (.int (0 : Int32)), .val (.int (3 : Int32)), .val .null, .unset] []))
  obtain ⟨T2, X2, e2, st2⟩ := getS2 X1 hx hZ hown (host := "") (Or.inl (hw _ (List.mem_of_getElem? (i := 26) rfl))) Via.refl e1 S_String_COMPACT_STRINGS (g := (mkF m 27 #[.val (.ref o0), .val (.ref o1), .val (.int (0 : Int32)), .val (.int (3 : Int32)), .val .null, .unset] [])) rfl (hb hby own_din3_27)
  refine own_st (fun _ => st2 _) ?_
  show own_End p e below P (T2.setTop (mkF m 30 #[.val (.ref o0), .val (.ref o1), .val (.int (0 : Int32)), .val (.int (3 : Int32)), .val .null, .unset] [(.int s_String_COMPACT_STRINGS)]))
  refine own_st (fun _ => XS.ifNo X2.here hx rfl (hb hby own_din3_30) rfl ((if0 _ _).trans (feq hnz).1)) ?_
  show own_End p e below P (T2.setTop (mkF m 33 #[.val (.ref o0), .val (.ref o1), .val (.int (0 : Int32)), .val (.int (3 : Int32)), .val .null, .unset] []))
  refine own_st (fun _ => XS.aloadN X2.here hx rfl (hb hby own_din3_33) rfl rfl) ?_
  show own_End p e below P (T2.setTop (mkF m 34 #[.val (.ref o0), .val (.ref o1), .val (.int (0 : Int32)), .val (.int (3 : Int32)), .val .null, .unset] [(.ref o1)]))
  refine own_st (fun _ => XS.iloadN X2.here hx rfl (hb hby own_din3_34) rfl) ?_
  show own_End p e below P (T2.setTop (mkF m 35 #[.val (.ref o0), .val (.ref o1), .val (.int (0 : Int32)), .val (.int (3 : Int32)), .val .null, .unset] [(.int (0 : Int32)), (.ref o1)]))
  refine own_st (fun _ => XS.iloadN X2.here hx rfl (hb hby own_din3_35) rfl) ?_
  show own_End p e below P (T2.setTop (mkF m 36 #[.val (.ref o0), .val (.ref o1), .val (.int (0 : Int32)), .val (.int (3 : Int32)), .val .null, .unset] [(.int (3 : Int32)), (.int (0 : Int32)), (.ref o1)]))
  refine own_callS X2 hx hZ (y := (⟨"java/lang/StringUTF16", "compress", "([CII)[B"⟩ : MethodName)) hown (hw _ (List.mem_of_getElem? (i := 27) rfl)) (hw _ (List.mem_of_getElem? (i := 28) rfl)) (hw _ (List.mem_of_getElem? (i := 29) rfl)) (hw _ (List.mem_of_getElem? (i := 30) rfl)) (by decide) (own_mcb3 l Z a0 hw [] o1 c0 c1 c2 h0 n0 (Nat.le_trans Z0 K0.1) A_o1 hi0 hi1 hi2) 0 (by decide) (by decide) e2 (by decide) (by decide) (g := (mkF m 36 #[.val (.ref o0), .val (.ref o1), .val (.int (0 : Int32)), .val (.int (3 : Int32)), .val .null, .unset] [(.int (3 : Int32)), (.int (0 : Int32)), (.ref o1)])) rfl (by rw [hml']; rfl) (argsL := [(.ref o1), (.int (0 : Int32)), (.int (3 : Int32))]) (rest := []) rfl (lenOf own_pd_CII__B_542 rfl) rfl (by show 2 * 0 + _ ≤ _; exact Nat.le_of_eq rfl) (hb hby own_din3_36) (fun r3 T3 L3 X3 hQ3 => ?_)
  obtain ⟨b1_3, rfl, Nq3, Kq3, szq_b1_3, low_b1_3, f0_3⟩ := hQ3
  have N3 := Fr.app N0 Nq3
  have ne4 : o0 ≠ b1_3 := Nat.ne_of_lt (Nat.lt_of_lt_of_le E_o0.lt szq_b1_3)
  have ne5 : o1 ≠ b1_3 := Nat.ne_of_lt (Nat.lt_of_lt_of_le A_o1.lt szq_b1_3)
  have sz_b1_3 := Nat.le_trans K0.1 szq_b1_3
  have K3 := Keep.trans K0 Kq3 all0
  show own_End p e below P (T3.setTop (mkF m 39 #[.val (.ref o0), .val (.ref o1), .val (.int (0 : Int32)), .val (.int (3 : Int32)), .val .null, .unset] [(.ref b1_3)]))
  refine own_st (fun _ => XS.astore X3.here hx rfl (hb hby own_din3_39) rfl rfl (l' := #[.val (.ref o0), .val (.ref o1), .val (.int (0 : Int32)), .val (.int (3 : Int32)), .val .null, .val (.ref b1_3)]) rfl) ?_
  show own_End p e below P (T3.setTop (mkF m 41 #[.val (.ref o0), .val (.ref o1), .val (.int (0 : Int32)), .val (.int (3 : Int32)), .val .null, .val (.ref b1_3)] []))
  refine own_st (fun _ => XS.aloadN X3.here hx rfl (hb hby own_din3_41) rfl rfl) ?_
  show own_End p e below P (T3.setTop (mkF m 42 #[.val (.ref o0), .val (.ref o1), .val (.int (0 : Int32)), .val (.int (3 : Int32)), .val .null, .val (.ref b1_3)] [(.ref o0)]))
  refine own_st (fun _ => XS.aload X3.here hx rfl (hb hby own_din3_42) rfl rfl) ?_
  show own_End p e below P (T3.setTop (mkF m 44 #[.val (.ref o0), .val (.ref o1), .val (.int (0 : Int32)), .val (.int (3 : Int32)), .val .null, .val (.ref b1_3)] [(.ref b1_3), (.ref o0)]))
  refine own_st (fun _ => XS.iloadN X3.here hx rfl (hb hby own_din3_44) rfl) ?_
  show own_End p e below P (T3.setTop (mkF m 45 #[.val (.ref o0), .val (.ref o1), .val (.int (0 : Int32)), .val (.int (3 : Int32)), .val .null, .val (.ref b1_3)] [(.int (3 : Int32)), (.ref b1_3), (.ref o0)]))
  refine own_callS X3 hx hZ (y := (⟨"java/lang/StringUTF16", "coderFromArrayLen", "([BI)B"⟩ : MethodName)) hown (hw _ (List.mem_of_getElem? (i := 34) rfl)) (hw _ (List.mem_of_getElem? (i := 35) rfl)) (hw _ (List.mem_of_getElem? (i := 29) rfl)) (hw _ (List.mem_of_getElem? (i := 36) rfl)) (by decide) (own_mcl3 l Z a0 hw [] b1_3 (nar .byte (c0.toInt8.toInt32)) (nar .byte (c1.toInt8.toInt32)) (nar .byte (c2.toInt8.toInt32)) T3.heap n0 (Nat.le_trans Z0 K3.1) f0_3) 1 (by decide) (by decide) rfl (by decide) (by decide) (g := (mkF m 45 #[.val (.ref o0), .val (.ref o1), .val (.int (0 : Int32)), .val (.int (3 : Int32)), .val .null, .val (.ref b1_3)] [(.int (3 : Int32)), (.ref b1_3), (.ref o0)])) rfl (by rw [hml']; rfl) (argsL := [(.ref b1_3), (.int (3 : Int32))]) (rest := [(.ref o0)]) rfl (lenOf own_pd_BI_B_377 rfl) rfl (by show 2 * 0 + _ ≤ _; exact Nat.le_of_eq rfl) (hb hby own_din3_45) (fun r6 T6 L6 X6 hQ6 => ?_)
  obtain ⟨rfl, Nq6, eq6⟩ := hQ6
  have N6 := Fr.app N3 Nq6
  show own_End p e below P (T6.setTop (mkF m 48 #[.val (.ref o0), .val (.ref o1), .val (.int (0 : Int32)), .val (.int (3 : Int32)), .val .null, .val (.ref b1_3)] [(.int (0 : Int32)), (.ref o0)]))
  have G7 := (F_o0_coder.keep Kq3 nin0)
  have G8 := (E_o0.keep Kq3)
  obtain ⟨T9, h9, X9, e9, W9, st9⟩ := putFN X6 hx hZ hown (hw _ (List.mem_of_getElem? (i := 25) rfl)) Via.refl eq6 G7 G8 (Or.inr ⟨(hw _ (List.mem_of_getElem? (i := 21) rfl)), rfl, hnm⟩) (hw _ (List.mem_of_getElem? (i := 5) rfl)) (ty := .byte) (v' := (.int (nar .byte (0 : Int32)))) (by decide) rfl (fits_nar_byte _) (g := (mkF m 48 #[.val (.ref o0), .val (.ref o1), .val (.int (0 : Int32)), .val (.int (3 : Int32)), .val .null, .val (.ref b1_3)] [(.int (0 : Int32)), (.ref o0)])) rfl rfl (hb hby own_din3_48)
  have N9 := Fr.snoc X9 N6 low_o0
  have K9 := Keep.wr K3 W9 (Or.inl (List.mem_of_getElem? (i := 0) rfl))
  have F9 := G7.same W9
  refine own_st (fun _ => st9 _) ?_
  show own_End p e below P (T9.setTop (mkF m 51 #[.val (.ref o0), .val (.ref o1), .val (.int (0 : Int32)), .val (.int (3 : Int32)), .val .null, .val (.ref b1_3)] []))
  refine own_st (fun _ => XS.aloadN X9.here hx rfl (hb hby own_din3_51) rfl rfl) ?_
  show own_End p e below P (T9.setTop (mkF m 52 #[.val (.ref o0), .val (.ref o1), .val (.int (0 : Int32)), .val (.int (3 : Int32)), .val .null, .val (.ref b1_3)] [(.ref o0)]))
  refine own_st (fun _ => XS.aload X9.here hx rfl (hb hby own_din3_52) rfl rfl) ?_
  show own_End p e below P (T9.setTop (mkF m 54 #[.val (.ref o0), .val (.ref o1), .val (.int (0 : Int32)), .val (.int (3 : Int32)), .val .null, .val (.ref b1_3)] [(.ref b1_3), (.ref o0)]))
  have G10 := ((F_o0_value.keep Kq3 nin0).other W9 (Or.inr (slot_ne (Or.inr (hw _ (List.mem_of_getElem? (i := 20) rfl))) (Or.inr (hw _ (List.mem_of_getElem? (i := 21) rfl))) (by decide) (t := (.array .byte)) (t' := .byte) (by decide) (by decide))))
  have G11 := (G8.wr W9)
  obtain ⟨T12, h12, X12, e12, W12, st12⟩ := putF X9 hx hZ hown (host := "") (Or.inl (hw _ (List.mem_of_getElem? (i := 24) rfl))) Via.refl e9 G10 G11 (Or.inr ⟨(hw _ (List.mem_of_getElem? (i := 20) rfl)), rfl, hnm⟩) (hw _ (List.mem_of_getElem? (i := 5) rfl)) (ty := (.array .byte)) (by decide) rfl rfl (g := (mkF m 54 #[.val (.ref o0), .val (.ref o1), .val (.int (0 : Int32)), .val (.int (3 : Int32)), .val .null, .val (.ref b1_3)] [(.ref b1_3), (.ref o0)])) rfl rfl (hb hby own_din3_54)
  have N12 := Fr.snoc X12 N9 low_o0
  have K12 := Keep.wr K9 W12 (Or.inl (List.mem_of_getElem? (i := 0) rfl))
  have F12 := G10.same W12
  refine own_st (fun _ => st12 _) ?_
  show own_End p e below P (T12.setTop (mkF m 57 #[.val (.ref o0), .val (.ref o1), .val (.int (0 : Int32)), .val (.int (3 : Int32)), .val .null, .val (.ref b1_3)] []))
  have G13 := (G11.wr W12)
  have G14 := (F9.other W12 (Or.inr (slot_ne (Or.inr (hw _ (List.mem_of_getElem? (i := 21) rfl))) (Or.inr (hw _ (List.mem_of_getElem? (i := 20) rfl))) (by decide) (t := .byte) (t' := (.array .byte)) (by decide) (by decide))))
  have G15 := (((F_o0_hash.keep Kq3 nin0).other W9 (Or.inr (slot_ne (Or.inl (hw _ (List.mem_of_getElem? (i := 88) rfl))) (Or.inr (hw _ (List.mem_of_getElem? (i := 21) rfl))) (by decide) (t := .int) (t' := .byte) (by decide) (by decide)))).other W12 (Or.inr (slot_ne (Or.inl (hw _ (List.mem_of_getElem? (i := 88) rfl))) (Or.inr (hw _ (List.mem_of_getElem? (i := 20) rfl))) (by decide) (t := .int) (t' := (.array .byte)) (by decide) (by decide))))
  have G16 := (((F_o0_hashIsZero.keep Kq3 nin0).other W9 (Or.inr (slot_ne (Or.inl (hw _ (List.mem_of_getElem? (i := 90) rfl))) (Or.inr (hw _ (List.mem_of_getElem? (i := 21) rfl))) (by decide) (t := .boolean) (t' := .byte) (by decide) (by decide)))).other W12 (Or.inr (slot_ne (Or.inl (hw _ (List.mem_of_getElem? (i := 90) rfl))) (Or.inr (hw _ (List.mem_of_getElem? (i := 20) rfl))) (by decide) (t := .boolean) (t' := (.array .byte)) (by decide) (by decide))))
  have G17 := ((f0_3.other W9 (Ne.symm ne4)).other W12 (Ne.symm ne4))
  have hfin : ((fun (v : Option Value) (h : Heap) (L : List Loc) => ∃ (b1_3 : Addr), v = none ∧ Fr n0 L ∧ Keep h0 h [o0] ∧ h0.size ≤ b1_3 ∧ n0 ≤ b1_3 ∧ Exa Z h o0 "java/lang/String" ∧ Fld Z h o0 "java/lang/String" "value" "[B" (.ref b1_3) ∧ Fld Z h o0 "java/lang/String" "coder" "B" (.int (nar .byte (0 : Int32))) ∧ Fld Z h o0 "java/lang/String" "hash" "I" (.int (0 : Int32)) ∧ Fld Z h o0 "java/lang/String" "hashIsZero" "Z" (.int (0 : Int32)) ∧ own_BA Z h b1_3 [(nar .byte (c0.toInt8.toInt32)), (nar .byte (c1.toInt8.toInt32)), (nar .byte (c2.toInt8.toInt32))])) none h12 _ := ⟨b1_3, rfl, N12, K12, sz_b1_3, low_b1_3, G13, F12, G14, G15, G16, G17⟩
  refine own_retV X12 hx hlk hP hrt (hb hby own_din3_57) (by decide) (by decide) ?_
  rw [e12]; exact hfin
theorem own_dic3_0 : decode jdk_42_method_3_code 0 = .ok (.aload_n 0, 1) := by decide +kernel
theorem own_dic3_1 : decode jdk_42_method_3_code 1 = .ok (.aload_n 1, 1) := by decide +kernel
theorem own_dic3_2 : decode jdk_42_method_3_code 2 = .ok (.iconst 0, 1) := by decide +kernel
theorem own_dic3_3 : decode jdk_42_method_3_code 3 = .ok (.aload_n 1, 1) := by decide +kernel
theorem own_dic3_4 : decode jdk_42_method_3_code 4 = .ok (.arraylength, 1) := by decide +kernel
theorem own_dic3_5 : decode jdk_42_method_3_code 5 = .ok (.aconst_null, 1) := by decide +kernel
theorem own_dic3_6 : decode jdk_42_method_3_code 6 = .ok (.invokespecial 27, 3) := by decide +kernel
theorem own_dic3_9 : decode jdk_42_method_3_code 9 = .ok (.return_, 1) := by decide +kernel
theorem own_efic3 (m : MethodId) (o0 : Addr) (o1 : Addr) : entryFrame m #[(.ref o0), (.ref o1)] 2 = mkF m 0 #[.val (.ref o0), .val (.ref o1)] [] := by first | (simp [entryFrame, mkF, argsToLocals, Value.category]; done) | rfl
set_option maxRecDepth 65536 in
set_option maxHeartbeats 40000000 in
theorem own_mic3 (l : Launch) (Z : State) (a0 : Array Value) (hw : ∀ d ∈ tables_1, d.before a0 Z = true) (ws : List Jvm.Cond) (o0 : Addr) (o1 : Addr) (c0 : Int32) (c1 : Int32) (c2 : Int32) (s_String_COMPACT_STRINGS : Int32) (h0 : Heap) (n0 : Nat) (Z0 : n0 ≤ h0.size) (E_o0 : Exa Z h0 o0 "java/lang/String") (F_o0_value : Fld Z h0 o0 "java/lang/String" "value" "[B" .null) (F_o0_coder : Fld Z h0 o0 "java/lang/String" "coder" "B" (.int (0 : Int32))) (F_o0_hash : Fld Z h0 o0 "java/lang/String" "hash" "I" (.int (0 : Int32))) (F_o0_hashIsZero : Fld Z h0 o0 "java/lang/String" "hashIsZero" "Z" (.int (0 : Int32))) (S_String_COMPACT_STRINGS : Sta Z h0 "java/lang/String" "COMPACT_STRINGS" "Z" (.int s_String_COMPACT_STRINGS)) (A_o1 : own_CA Z h0 o1 [c0, c1, c2]) (low_o0 : n0 ≤ o0) (hi0 : ¬ ((255 : Int32) < c0)) (hi1 : ¬ ((255 : Int32) < c1)) (hi2 : ¬ ((255 : Int32) < c2)) (hnz : ¬ (s_String_COMPACT_STRINGS = (0 : Int32))) :
    own_Met l Z (⟨"java/lang/String", "<init>", "([C)V"⟩ : MethodName) jdk_42_method_3_code 2 none ws ({ frames := 3, cells := 1, slots := 3, locals := 52 } : Room) #[(.ref o0), (.ref o1)] h0 (fun (v : Option Value) (h : Heap) (L : List Loc) => ∃ (b1_3_1 : Addr), v = none ∧ Fr n0 L ∧ Keep h0 h [o0] ∧ h0.size ≤ b1_3_1 ∧ n0 ≤ b1_3_1 ∧ Exa Z h o0 "java/lang/String" ∧ Fld Z h o0 "java/lang/String" "value" "[B" (.ref b1_3_1) ∧ Fld Z h o0 "java/lang/String" "coder" "B" (.int (nar .byte (0 : Int32))) ∧ Fld Z h o0 "java/lang/String" "hash" "I" (.int (0 : Int32)) ∧ Fld Z h o0 "java/lang/String" "hashIsZero" "Z" (.int (0 : Int32)) ∧ own_BA Z h b1_3_1 [(nar .byte (c0.toInt8.toInt32)), (nar .byte (c1.toInt8.toInt32)), (nar .byte (c2.toInt8.toInt32))]) := by
  refine own_enter (plainFor_of_name own_pn_java_lang_String) ?_
  intro p e s m below meth c s₁ P hx hby hml hrt hlk hown hnm hZ X0 e0 hP
  have N0 := Fr.nil n0
  have K0 := Keep.refl h0 [o0]
  have hml' : c.maxLocals = 2 := hml
  refine own_cast (own_efic3 m o0 o1) ?_
  show own_End p e below P (s₁.setTop (mkF m 0 #[.val (.ref o0), .val (.ref o1)] []))
  refine own_st (fun _ => XS.aloadN X0.here hx rfl (hb hby own_dic3_0) rfl rfl) ?_
  show own_End p e below P (s₁.setTop (mkF m 1 #[.val (.ref o0), .val (.ref o1)] [(.ref o0)]))
  refine own_st (fun _ => XS.aloadN X0.here hx rfl (hb hby own_dic3_1) rfl rfl) ?_
  show own_End p e below P (s₁.setTop (mkF m 2 #[.val (.ref o0), .val (.ref o1)] [(.ref o1), (.ref o0)]))
  refine own_st (fun _ => XS.iconst X0.here hx rfl (hb hby own_dic3_2)) ?_
  show own_End p e below P (s₁.setTop (mkF m 3 #[.val (.ref o0), .val (.ref o1)] [(.int (0 : Int32)), (.ref o1), (.ref o0)]))
  refine own_st (fun _ => XS.aloadN X0.here hx rfl (hb hby own_dic3_3) rfl rfl) ?_
  show own_End p e below P (s₁.setTop (mkF m 4 #[.val (.ref o0), .val (.ref o1)] [(.ref o1), (.int (0 : Int32)), (.ref o1), (.ref o0)]))
  refine own_alenC X0 hx hZ e0 A_o1 (g := (mkF m 4 #[.val (.ref o0), .val (.ref o1)] [(.ref o1), (.int (0 : Int32)), (.ref o1), (.ref o0)])) rfl rfl (hb hby own_dic3_4) ?_
  show own_End p e below P (s₁.setTop (mkF m 5 #[.val (.ref o0), .val (.ref o1)] [(.int (3 : Int32)), (.int (0 : Int32)), (.ref o1), (.ref o0)]))
  refine own_st (fun _ => XS.aconstNull X0.here hx rfl (hb hby own_dic3_5)) ?_
  show own_End p e below P (s₁.setTop (mkF m 6 #[.val (.ref o0), .val (.ref o1)] [.null, (.int (3 : Int32)), (.int (0 : Int32)), (.ref o1), (.ref o0)]))
  refine own_callI X0 hx hZ (y := (⟨"java/lang/String", "<init>", "([CIILjava/lang/Void;)V"⟩ : MethodName)) rfl hown (hw _ (List.mem_of_getElem? (i := 11) rfl)) (hw _ (List.mem_of_getElem? (i := 12) rfl)) (hw _ (List.mem_of_getElem? (i := 6) rfl)) (hw _ (List.mem_of_getElem? (i := 14) rfl)) (by decide) (own_min3 l Z a0 hw [] o0 o1 c0 c1 c2 s_String_COMPACT_STRINGS h0 n0 (Nat.le_trans Z0 K0.1) E_o0 F_o0_value F_o0_coder F_o0_hash F_o0_hashIsZero S_String_COMPACT_STRINGS A_o1 low_o0 hi0 hi1 hi2 hnz) 0 (by decide) (by decide) e0 (by decide) (by decide) (g := (mkF m 6 #[.val (.ref o0), .val (.ref o1)] [.null, (.int (3 : Int32)), (.int (0 : Int32)), (.ref o1), (.ref o0)])) rfl (by rw [hml']; rfl) (a := o0) (argsL := [(.ref o1), (.int (0 : Int32)), (.int (3 : Int32)), .null]) (rest := []) rfl (lenOf own_pd_CIILjava_lang_Void__V_941 rfl) rfl (by show 2 * 0 + _ ≤ _; exact Nat.le_of_eq rfl) (hb hby own_dic3_6) (fun r1 T1 L1 X1 hQ1 => ?_)
  obtain ⟨b1_3_1, rfl, Nq1, Kq1, szq_b1_3_1, low_b1_3_1, f0_1, f1_1, f2_1, f3_1, f4_1, f5_1⟩ := hQ1
  have N1 := Fr.app N0 Nq1
  have ne2 : o0 ≠ b1_3_1 := Nat.ne_of_lt (Nat.lt_of_lt_of_le E_o0.lt szq_b1_3_1)
  have ne3 : o1 ≠ b1_3_1 := Nat.ne_of_lt (Nat.lt_of_lt_of_le A_o1.lt szq_b1_3_1)
  have sz_b1_3_1 := Nat.le_trans K0.1 szq_b1_3_1
  have K1 := Keep.trans K0 Kq1 (allS (Or.inl (List.mem_of_getElem? (i := 0) rfl)) all0)
  show own_End p e below P (T1.setTop (mkF m 9 #[.val (.ref o0), .val (.ref o1)] []))
  have hfin : ((fun (v : Option Value) (h : Heap) (L : List Loc) => ∃ (b1_3_1 : Addr), v = none ∧ Fr n0 L ∧ Keep h0 h [o0] ∧ h0.size ≤ b1_3_1 ∧ n0 ≤ b1_3_1 ∧ Exa Z h o0 "java/lang/String" ∧ Fld Z h o0 "java/lang/String" "value" "[B" (.ref b1_3_1) ∧ Fld Z h o0 "java/lang/String" "coder" "B" (.int (nar .byte (0 : Int32))) ∧ Fld Z h o0 "java/lang/String" "hash" "I" (.int (0 : Int32)) ∧ Fld Z h o0 "java/lang/String" "hashIsZero" "Z" (.int (0 : Int32)) ∧ own_BA Z h b1_3_1 [(nar .byte (c0.toInt8.toInt32)), (nar .byte (c1.toInt8.toInt32)), (nar .byte (c2.toInt8.toInt32))])) none T1.heap _ := ⟨b1_3_1, rfl, N1, K1, sz_b1_3_1, low_b1_3_1, f0_1, f1_1, f2_1, f3_1, f4_1, f5_1⟩
  refine own_retV X1 hx hlk hP hrt (hb hby own_dic3_9) (by decide) (by decide) ?_
  exact hfin
theorem own_BAnil {Z : State} {h : Heap} {a : Addr} {k : ClassId} (A : Arv Z h a k .byte (0 : Int32) [] (.int 0)) : own_BA Z h a [] := ⟨k, 0, A, rfl, Or.inl rfl⟩
theorem own_din0_0 : decode jdk_42_method_149_code 0 = .ok (.aload_n 0, 1) := by decide +kernel
theorem own_din0_1 : decode jdk_42_method_149_code 1 = .ok (.invokespecial 1, 3) := by decide +kernel
theorem own_din0_4 : decode jdk_42_method_149_code 4 = .ok (.iload_n 3, 1) := by decide +kernel
theorem own_din0_5 : decode jdk_42_method_149_code 5 = .ok (.ifCond .ne 22, 3) := by decide +kernel
theorem own_din0_8 : decode jdk_42_method_149_code 8 = .ok (.aload_n 0, 1) := by decide +kernel
theorem own_din0_9 : decode jdk_42_method_149_code 9 = .ok (.ldc 7, 2) := by decide +kernel
theorem own_din0_11 : decode jdk_42_method_149_code 11 = .ok (.getfield 9, 3) := by decide +kernel
theorem own_din0_14 : decode jdk_42_method_149_code 14 = .ok (.putfield 9, 3) := by decide +kernel
theorem own_din0_17 : decode jdk_42_method_149_code 17 = .ok (.aload_n 0, 1) := by decide +kernel
theorem own_din0_18 : decode jdk_42_method_149_code 18 = .ok (.ldc 7, 2) := by decide +kernel
theorem own_din0_20 : decode jdk_42_method_149_code 20 = .ok (.getfield 15, 3) := by decide +kernel
theorem own_din0_23 : decode jdk_42_method_149_code 23 = .ok (.putfield 15, 3) := by decide +kernel
theorem own_din0_26 : decode jdk_42_method_149_code 26 = .ok (.return_, 1) := by decide +kernel
theorem own_efin0 (m : MethodId) (o0 : Addr) (o1 : Addr) : entryFrame m #[(.ref o0), (.ref o1), (.int (0 : Int32)), (.int (0 : Int32)), .null] 6 = mkF m 0 #[.val (.ref o0), .val (.ref o1), .val (.int (0 : Int32)), .val (.int (0 : Int32)), .val .null, .unset] [] := by first | (simp [entryFrame, mkF, argsToLocals, Value.category]; done) | rfl
set_option maxRecDepth 65536 in
set_option maxHeartbeats 40000000 in
theorem own_min0 (l : Launch) (Z : State) (a0 : Array Value) (hw : ∀ d ∈ tables_1, d.before a0 Z = true) (ws : List Jvm.Cond) (o0 : Addr) (o1 : Addr)  (h0 : Heap) (n0 : Nat) (Z0 : n0 ≤ h0.size) (E_o0 : Exa Z h0 o0 "java/lang/String") (F_o0_value : Fld Z h0 o0 "java/lang/String" "value" "[B" .null) (F_o0_coder : Fld Z h0 o0 "java/lang/String" "coder" "B" (.int (0 : Int32))) (F_o0_hash : Fld Z h0 o0 "java/lang/String" "hash" "I" (.int (0 : Int32))) (F_o0_hashIsZero : Fld Z h0 o0 "java/lang/String" "hashIsZero" "Z" (.int (0 : Int32))) (low_o0 : n0 ≤ o0) :
    own_MetH l Z consts_1 (⟨"java/lang/String", "<init>", "([CIILjava/lang/Void;)V"⟩ : MethodName) jdk_42_method_149_code 6 none ws ({ frames := 1, cells := 4, slots := 8, locals := 12 } : Room) #[(.ref o0), (.ref o1), (.int (0 : Int32)), (.int (0 : Int32)), .null] h0 (fun (v : Option Value) (h : Heap) (L : List Loc) => ∃ b : Addr, v = none ∧ Fr n0 L ∧ Keep h0 h [o0] ∧ o0 ≠ b ∧ Exa Z h o0 "java/lang/String" ∧ Fld Z h o0 "java/lang/String" "value" "[B" (.ref b) ∧ Fld Z h o0 "java/lang/String" "coder" "B" (.int 0) ∧ Fld Z h o0 "java/lang/String" "hash" "I" (.int 0) ∧ Fld Z h o0 "java/lang/String" "hashIsZero" "Z" (.int 0) ∧ own_BA Z h b []) := by
  refine own_enterH (plainFor_of_name own_pn_java_lang_String) ?_
  intro p e s m below meth c s₁ P vm0 k0 hx hby hml hrt hlk hown hnm hZ X0 e0 hS hk hC hP
  have N0 := Fr.nil n0
  have K0 := Keep.refl h0 [o0]
  have hml' : c.maxLocals = 6 := hml
  have hEL := own_EW hw
  refine own_cast (own_efin0 m o0 o1) ?_
  show own_End p e below P (s₁.setTop (mkF m 0 #[.val (.ref o0), .val (.ref o1), .val (.int (0 : Int32)), .val (.int (0 : Int32)), .val .null, .unset] []))
  refine own_st (fun _ => XS.aloadN X0.here hx rfl (hb hby own_din0_0) rfl rfl) ?_
  show own_End p e below P (s₁.setTop (mkF m 1 #[.val (.ref o0), .val (.ref o1), .val (.int (0 : Int32)), .val (.int (0 : Int32)), .val .null, .unset] [(.ref o0)]))
  obtain ⟨T1, X1, e1, st1⟩ := initO X0 hx hZ hown (hw _ (List.mem_of_getElem? (i := 15) rfl)) (hw _ (List.mem_of_getElem? (i := 16) rfl)) (hw _ (List.mem_of_getElem? (i := 17) rfl)) e0 (g := (mkF m 1 #[.val (.ref o0), .val (.ref o1), .val (.int (0 : Int32)), .val (.int (0 : Int32)), .val .null, .unset] [(.ref o0)])) rfl (by rw [hml']; rfl) rfl (hb hby own_din0_1) (by decide) (W := 0) (by show 2 * 0 + _ ≤ _; exact Nat.le_of_eq rfl) (by decide)
  refine own_st (fun _ => st1 _) ?_
  show own_End p e below P (T1.setTop (mkF m 4 #[.val (.ref o0), .val (.ref o1), .val (.int (0 : Int32)), .val (.int (0 : Int32)), .val .null, .unset] []))
  refine own_st (fun _ => XS.iloadN X1.here hx rfl (hb hby own_din0_4) rfl) ?_
  show own_End p e below P (T1.setTop (mkF m 5 #[.val (.ref o0), .val (.ref o1), .val (.int (0 : Int32)), .val (.int (0 : Int32)), .val .null, .unset] [(.int (0 : Int32))]))
  refine own_st (fun _ => XS.ifNo X1.here hx rfl (hb hby own_din0_5) rfl ((if0 _ _).trans (teq (by decide : (0 : Int32) = (0 : Int32))).2)) ?_
  show own_End p e below P (T1.setTop (mkF m 8 #[.val (.ref o0), .val (.ref o1), .val (.int (0 : Int32)), .val (.int (0 : Int32)), .val .null, .unset] []))
  refine own_st (fun _ => XS.aloadN X1.here hx rfl (hb hby own_din0_8) rfl rfl) ?_
  show own_End p e below P (T1.setTop (mkF m 9 #[.val (.ref o0), .val (.ref o1), .val (.int (0 : Int32)), .val (.int (0 : Int32)), .val .null, .unset] [(.ref o0)]))
  have Sw3 := (own_safeNull (EL := consts_1) hZ.alike E_o0 F_o0_value)
  obtain ⟨a2, T2, h2, k2, b2, c2, X2, e2, E2, hS, hk2, hZ, hown, EA2, FC2, FV2, VV2, -, -, hC2, Li2, Ne2, st2⟩ := ldcCH X1 hx hZ hown (hw _ (List.mem_of_getElem? (i := 18) rfl)) (own_wS hw) e1 hS hk hEL (List.mem_of_getElem? (i := 0) rfl) hC.1 (vs := []) (z := (0 : Int32)) ⟨by decide, by rfl⟩ (by decide) (by decide) (g := (mkF m 9 #[.val (.ref o0), .val (.ref o1), .val (.int (0 : Int32)), .val (.int (0 : Int32)), .val .null, .unset] [(.ref o0)])) rfl (hb hby own_din0_9) (n := 0) (by decide) (by decide) (by decide) (by decide)
  have Sw4 := hC2.safe E_o0.lt Sw3
  have hC := hC.trans hC2
  have K2 := Keep.ext K0 E2
  refine own_st (fun _ => st2 _) ?_
  show own_End p e below P (T2.setTop (mkF m 11 #[.val (.ref o0), .val (.ref o1), .val (.int (0 : Int32)), .val (.int (0 : Int32)), .val .null, .unset] [(.ref a2), (.ref o0)]))
  obtain ⟨T5, X5, e5, st5⟩ := getF X2 hx hZ hown (host := "") (Or.inl (hw _ (List.mem_of_getElem? (i := 24) rfl))) Via.refl e2 FV2 (g := (mkF m 11 #[.val (.ref o0), .val (.ref o1), .val (.int (0 : Int32)), .val (.int (0 : Int32)), .val .null, .unset] [(.ref a2), (.ref o0)])) rfl rfl (hb hby own_din0_11)
  refine own_st (fun _ => st5 _) ?_
  show own_End p e below P (T5.setTop (mkF m 14 #[.val (.ref o0), .val (.ref o1), .val (.int (0 : Int32)), .val (.int (0 : Int32)), .val .null, .unset] [(.ref b2), (.ref o0)]))
  have G6 := (F_o0_value.ext E2)
  have G7 := (E_o0.ext E2)
  obtain ⟨T8, h8, X8, e8, W8, st8⟩ := putF X5 hx hZ hown (host := "") (Or.inl (hw _ (List.mem_of_getElem? (i := 24) rfl))) Via.refl e5 G6 G7 (Or.inr ⟨(hw _ (List.mem_of_getElem? (i := 20) rfl)), rfl, hnm⟩) (hw _ (List.mem_of_getElem? (i := 5) rfl)) (ty := (.array .byte)) (by decide) rfl rfl (g := (mkF m 14 #[.val (.ref o0), .val (.ref o1), .val (.int (0 : Int32)), .val (.int (0 : Int32)), .val .null, .unset] [(.ref b2), (.ref o0)])) rfl rfl (hb hby own_din0_14)
  have Sf8 := Sw4
  have Sw9 := Safe.wr W8 Sf8 hC.1 Sw4
  have hC := hC.trans (CHr.wr W8 Sf8 hC.1)
  have N8 := Fr.snoc X8 N0 low_o0
  have K8 := Keep.wr K2 W8 (Or.inl (List.mem_of_getElem? (i := 0) rfl))
  have F8 := G6.same W8
  refine own_st (fun _ => st8 _) ?_
  show own_End p e below P (T8.setTop (mkF m 17 #[.val (.ref o0), .val (.ref o1), .val (.int (0 : Int32)), .val (.int (0 : Int32)), .val .null, .unset] []))
  refine own_st (fun _ => XS.aloadN X8.here hx rfl (hb hby own_din0_17) rfl rfl) ?_
  show own_End p e below P (T8.setTop (mkF m 18 #[.val (.ref o0), .val (.ref o1), .val (.int (0 : Int32)), .val (.int (0 : Int32)), .val .null, .unset] [(.ref o0)]))
  have G11 := (Nat.le_trans hk2 (Keep.of_wr W8).1)
  have Sw12 := Sw9
  have G13 := (G7.wr W8)
  obtain ⟨a10, T10, h10, k10, b10, c10, X10, e10, E10, hS, hk10, hZ, hown, EA10, FC10, FV10, VV10, -, -, hC10, Li10, Ne10, st10⟩ := ldcCH X8 hx hZ hown (hw _ (List.mem_of_getElem? (i := 18) rfl)) (own_wS hw) e8 hS G11 hEL (List.mem_of_getElem? (i := 0) rfl) hC.1 (vs := []) (z := (0 : Int32)) ⟨by decide, by rfl⟩ (by decide) (by decide) (g := (mkF m 18 #[.val (.ref o0), .val (.ref o1), .val (.int (0 : Int32)), .val (.int (0 : Int32)), .val .null, .unset] [(.ref o0)])) rfl (hb hby own_din0_18) (n := 0) (by decide) (by decide) (by decide) (by decide)
  have Sw14 := hC10.safe G13.lt Sw12
  have hC := hC.trans hC10
  have K10 := Keep.ext K8 E10
  refine own_st (fun _ => st10 _) ?_
  show own_End p e below P (T10.setTop (mkF m 20 #[.val (.ref o0), .val (.ref o1), .val (.int (0 : Int32)), .val (.int (0 : Int32)), .val .null, .unset] [(.ref a10), (.ref o0)]))
  obtain ⟨T15, X15, e15, st15⟩ := getF X10 hx hZ hown (host := "") (Or.inl (hw _ (List.mem_of_getElem? (i := 25) rfl))) Via.refl e10 FC10 (g := (mkF m 20 #[.val (.ref o0), .val (.ref o1), .val (.int (0 : Int32)), .val (.int (0 : Int32)), .val .null, .unset] [(.ref a10), (.ref o0)])) rfl rfl (hb hby own_din0_20)
  refine own_st (fun _ => st15 _) ?_
  show own_End p e below P (T15.setTop (mkF m 23 #[.val (.ref o0), .val (.ref o1), .val (.int (0 : Int32)), .val (.int (0 : Int32)), .val .null, .unset] [(.int (0 : Int32)), (.ref o0)]))
  have G16 := (((F_o0_coder.ext E2).other W8 (Or.inr (slot_ne (Or.inr (hw _ (List.mem_of_getElem? (i := 21) rfl))) (Or.inr (hw _ (List.mem_of_getElem? (i := 20) rfl))) (by decide) (t := .byte) (t' := (.array .byte)) (by decide) (by decide)))).ext E10)
  have G17 := (G13.ext E10)
  obtain ⟨T18, h18, X18, e18, W18, st18⟩ := putFN X15 hx hZ hown (hw _ (List.mem_of_getElem? (i := 25) rfl)) Via.refl e15 G16 G17 (Or.inr ⟨(hw _ (List.mem_of_getElem? (i := 21) rfl)), rfl, hnm⟩) (hw _ (List.mem_of_getElem? (i := 5) rfl)) (ty := .byte) (v' := (.int (nar .byte (0 : Int32)))) (by decide) rfl (fits_nar_byte _) (g := (mkF m 23 #[.val (.ref o0), .val (.ref o1), .val (.int (0 : Int32)), .val (.int (0 : Int32)), .val .null, .unset] [(.int (0 : Int32)), (.ref o0)])) rfl rfl (hb hby own_din0_23)
  have Sf18 := Sw14
  have Sw19 := Safe.wr W18 Sf18 hC.1 Sw14
  have hC := hC.trans (CHr.wr W18 Sf18 hC.1)
  have N18 := Fr.snoc X18 N8 low_o0
  have K18 := Keep.wr K10 W18 (Or.inl (List.mem_of_getElem? (i := 0) rfl))
  have F18 := G16.same W18
  refine own_st (fun _ => st18 _) ?_
  show own_End p e below P (T18.setTop (mkF m 26 #[.val (.ref o0), .val (.ref o1), .val (.int (0 : Int32)), .val (.int (0 : Int32)), .val .null, .unset] []))
  have G20 := (Nat.le_trans hk10 (Keep.of_wr W18).1)
  refine own_retVH X18 hS G20 e18 hZ hEL hC hx hlk hP hrt (hb hby own_din0_26) (by decide) (by decide) ?_
  have G21 := (((VV2.other W8 (Ne.symm (Ne2 _ Sw4).2)).ext E10).other W18 (Ne.symm (Ne2 _ Sw4).2))
  have G22 := (G17.wr W18)
  have G23 := ((F8.ext E10).other W18 (Or.inr (slot_ne (Or.inr (hw _ (List.mem_of_getElem? (i := 20) rfl))) (Or.inr (hw _ (List.mem_of_getElem? (i := 21) rfl))) (by decide) (t := (.array .byte)) (t' := .byte) (by decide) (by decide))))
  have G24 := ((((F_o0_hash.ext E2).other W8 (Or.inr (slot_ne (Or.inl (hw _ (List.mem_of_getElem? (i := 88) rfl))) (Or.inr (hw _ (List.mem_of_getElem? (i := 20) rfl))) (by decide) (t := .int) (t' := (.array .byte)) (by decide) (by decide)))).ext E10).other W18 (Or.inr (slot_ne (Or.inl (hw _ (List.mem_of_getElem? (i := 88) rfl))) (Or.inr (hw _ (List.mem_of_getElem? (i := 21) rfl))) (by decide) (t := .int) (t' := .byte) (by decide) (by decide))))
  have G25 := ((((F_o0_hashIsZero.ext E2).other W8 (Or.inr (slot_ne (Or.inl (hw _ (List.mem_of_getElem? (i := 90) rfl))) (Or.inr (hw _ (List.mem_of_getElem? (i := 20) rfl))) (by decide) (t := .boolean) (t' := (.array .byte)) (by decide) (by decide)))).ext E10).other W18 (Or.inr (slot_ne (Or.inl (hw _ (List.mem_of_getElem? (i := 90) rfl))) (Or.inr (hw _ (List.mem_of_getElem? (i := 21) rfl))) (by decide) (t := .boolean) (t' := .byte) (by decide) (by decide))))
  have hfin : (fun (v : Option Value) (h : Heap) (L : List Loc) => ∃ b : Addr, v = none ∧ Fr n0 L ∧ Keep h0 h [o0] ∧ o0 ≠ b ∧ Exa Z h o0 "java/lang/String" ∧ Fld Z h o0 "java/lang/String" "value" "[B" (.ref b) ∧ Fld Z h o0 "java/lang/String" "coder" "B" (.int 0) ∧ Fld Z h o0 "java/lang/String" "hash" "I" (.int 0) ∧ Fld Z h o0 "java/lang/String" "hashIsZero" "Z" (.int 0) ∧ own_BA Z h b []) none h18 _ := ⟨b2, rfl, N18, K18, (Ne2 _ Sw4).2, G22, G23, F18, G24, G25, (own_BAnil G21)⟩
  rw [e18]; exact hfin
theorem own_dic0_0 : decode jdk_42_method_3_code 0 = .ok (.aload_n 0, 1) := by decide +kernel
theorem own_dic0_1 : decode jdk_42_method_3_code 1 = .ok (.aload_n 1, 1) := by decide +kernel
theorem own_dic0_2 : decode jdk_42_method_3_code 2 = .ok (.iconst 0, 1) := by decide +kernel
theorem own_dic0_3 : decode jdk_42_method_3_code 3 = .ok (.aload_n 1, 1) := by decide +kernel
theorem own_dic0_4 : decode jdk_42_method_3_code 4 = .ok (.arraylength, 1) := by decide +kernel
theorem own_dic0_5 : decode jdk_42_method_3_code 5 = .ok (.aconst_null, 1) := by decide +kernel
theorem own_dic0_6 : decode jdk_42_method_3_code 6 = .ok (.invokespecial 27, 3) := by decide +kernel
theorem own_dic0_9 : decode jdk_42_method_3_code 9 = .ok (.return_, 1) := by decide +kernel
theorem own_efic0 (m : MethodId) (o0 : Addr) (o1 : Addr) : entryFrame m #[(.ref o0), (.ref o1)] 2 = mkF m 0 #[.val (.ref o0), .val (.ref o1)] [] := by first | (simp [entryFrame, mkF, argsToLocals, Value.category]; done) | rfl
set_option maxRecDepth 65536 in
set_option maxHeartbeats 40000000 in
theorem own_mic0 (l : Launch) (Z : State) (a0 : Array Value) (hw : ∀ d ∈ tables_1, d.before a0 Z = true) (ws : List Jvm.Cond) (o0 : Addr) (o1 : Addr)  (h0 : Heap) (n0 : Nat) (Z0 : n0 ≤ h0.size) (E_o0 : Exa Z h0 o0 "java/lang/String") (F_o0_value : Fld Z h0 o0 "java/lang/String" "value" "[B" .null) (F_o0_coder : Fld Z h0 o0 "java/lang/String" "coder" "B" (.int (0 : Int32))) (F_o0_hash : Fld Z h0 o0 "java/lang/String" "hash" "I" (.int (0 : Int32))) (F_o0_hashIsZero : Fld Z h0 o0 "java/lang/String" "hashIsZero" "Z" (.int (0 : Int32))) (A_o1 : own_CA Z h0 o1 []) (low_o0 : n0 ≤ o0) :
    own_MetH l Z consts_1 (⟨"java/lang/String", "<init>", "([C)V"⟩ : MethodName) jdk_42_method_3_code 2 none ws ({ frames := 2, cells := 4, slots := 8, locals := 29 } : Room) #[(.ref o0), (.ref o1)] h0 (fun (v : Option Value) (h : Heap) (L : List Loc) => ∃ b : Addr, v = none ∧ Fr n0 L ∧ Keep h0 h [o0] ∧ o0 ≠ b ∧ Exa Z h o0 "java/lang/String" ∧ Fld Z h o0 "java/lang/String" "value" "[B" (.ref b) ∧ Fld Z h o0 "java/lang/String" "coder" "B" (.int 0) ∧ Fld Z h o0 "java/lang/String" "hash" "I" (.int 0) ∧ Fld Z h o0 "java/lang/String" "hashIsZero" "Z" (.int 0) ∧ own_BA Z h b []) := by
  refine own_enterH (plainFor_of_name own_pn_java_lang_String) ?_
  intro p e s m below meth c s₁ P vm0 k0 hx hby hml hrt hlk hown hnm hZ X0 e0 hS hk hC hP
  have N0 := Fr.nil n0
  have K0 := Keep.refl h0 [o0]
  have hml' : c.maxLocals = 2 := hml
  have hEL := own_EW hw
  refine own_cast (own_efic0 m o0 o1) ?_
  show own_End p e below P (s₁.setTop (mkF m 0 #[.val (.ref o0), .val (.ref o1)] []))
  refine own_st (fun _ => XS.aloadN X0.here hx rfl (hb hby own_dic0_0) rfl rfl) ?_
  show own_End p e below P (s₁.setTop (mkF m 1 #[.val (.ref o0), .val (.ref o1)] [(.ref o0)]))
  refine own_st (fun _ => XS.aloadN X0.here hx rfl (hb hby own_dic0_1) rfl rfl) ?_
  show own_End p e below P (s₁.setTop (mkF m 2 #[.val (.ref o0), .val (.ref o1)] [(.ref o1), (.ref o0)]))
  refine own_st (fun _ => XS.iconst X0.here hx rfl (hb hby own_dic0_2)) ?_
  show own_End p e below P (s₁.setTop (mkF m 3 #[.val (.ref o0), .val (.ref o1)] [(.int (0 : Int32)), (.ref o1), (.ref o0)]))
  refine own_st (fun _ => XS.aloadN X0.here hx rfl (hb hby own_dic0_3) rfl rfl) ?_
  show own_End p e below P (s₁.setTop (mkF m 4 #[.val (.ref o0), .val (.ref o1)] [(.ref o1), (.int (0 : Int32)), (.ref o1), (.ref o0)]))
  refine own_alenC X0 hx hZ e0 A_o1 (g := (mkF m 4 #[.val (.ref o0), .val (.ref o1)] [(.ref o1), (.int (0 : Int32)), (.ref o1), (.ref o0)])) rfl rfl (hb hby own_dic0_4) ?_
  show own_End p e below P (s₁.setTop (mkF m 5 #[.val (.ref o0), .val (.ref o1)] [(.int (0 : Int32)), (.int (0 : Int32)), (.ref o1), (.ref o0)]))
  refine own_st (fun _ => XS.aconstNull X0.here hx rfl (hb hby own_dic0_5)) ?_
  show own_End p e below P (s₁.setTop (mkF m 6 #[.val (.ref o0), .val (.ref o1)] [.null, (.int (0 : Int32)), (.int (0 : Int32)), (.ref o1), (.ref o0)]))
  refine own_callIH X0 hS hk hEL hC hx hZ (y := (⟨"java/lang/String", "<init>", "([CIILjava/lang/Void;)V"⟩ : MethodName)) rfl hown (hw _ (List.mem_of_getElem? (i := 11) rfl)) (hw _ (List.mem_of_getElem? (i := 12) rfl)) (hw _ (List.mem_of_getElem? (i := 6) rfl)) (hw _ (List.mem_of_getElem? (i := 14) rfl)) (by decide) (own_min0 l Z a0 hw [] o0 o1  h0 n0 (Nat.le_trans Z0 K0.1) E_o0 F_o0_value F_o0_coder F_o0_hash F_o0_hashIsZero low_o0) 0 (by decide) (by decide) e0 (by decide) (by decide) (g := (mkF m 6 #[.val (.ref o0), .val (.ref o1)] [.null, (.int (0 : Int32)), (.int (0 : Int32)), (.ref o1), (.ref o0)])) rfl (by rw [hml']; rfl) (a := o0) (argsL := [(.ref o1), (.int (0 : Int32)), (.int (0 : Int32)), .null]) (rest := []) rfl (lenOf own_pd_CIILjava_lang_Void__V_941 rfl) rfl (by show 2 * 0 + _ ≤ _; exact Nat.le_of_eq rfl) (hb hby own_dic0_6) (fun r1 T1 L1 X1 hQ1 hS hZ hown hC => ?_)
  obtain ⟨v1, rfl, Nq1, Kq1, nv1, ea1, fv1, fc1, fh1, fz1, ba1⟩ := hQ1
  have N1 := Fr.app N0 Nq1
  have K1 := Keep.trans K0 Kq1 (allS (Or.inl (List.mem_of_getElem? (i := 0) rfl)) all0)
  have hk1 : T1.heap.size ≤ T1.heap.size := Nat.le_refl _
  show own_End p e below P (T1.setTop (mkF m 9 #[.val (.ref o0), .val (.ref o1)] []))
  refine own_retVH X1 hS hk1 rfl hZ hEL hC hx hlk hP hrt (hb hby own_dic0_9) (by decide) (by decide) ?_
  have hfin : (fun (v : Option Value) (h : Heap) (L : List Loc) => ∃ b : Addr, v = none ∧ Fr n0 L ∧ Keep h0 h [o0] ∧ o0 ≠ b ∧ Exa Z h o0 "java/lang/String" ∧ Fld Z h o0 "java/lang/String" "value" "[B" (.ref b) ∧ Fld Z h o0 "java/lang/String" "coder" "B" (.int 0) ∧ Fld Z h o0 "java/lang/String" "hash" "I" (.int 0) ∧ Fld Z h o0 "java/lang/String" "hashIsZero" "Z" (.int 0) ∧ own_BA Z h b []) none T1.heap _ := ⟨v1, rfl, N1, K1, nv1, ea1, fv1, fc1, fh1, fz1, ba1⟩
  exact hfin
theorem own_and255 (x : Int32) : ∃ n : Fin 256, x &&& (255 : Int32) = Int32.ofNat n.val := by
  refine ⟨⟨x.toBitVec.toNat % 256, Nat.mod_lt _ (by decide)⟩, ?_⟩
  rw [← Int32.toBitVec_inj]
  apply BitVec.eq_of_toNat_eq
  show (x.toBitVec &&& 255#32).toNat = (BitVec.ofNat 32 (x.toBitVec.toNat % 256)).toNat
  rw [BitVec.toNat_and, BitVec.toNat_ofNat, BitVec.toNat_ofNat, show 255 % 2 ^ 32 = 2 ^ 8 - 1 from rfl, Nat.and_two_pow_sub_one_eq_mod]
  omega
theorem own_cc' : ∀ n : Fin 256, ¬ ((255 : Int32) < nar .char ((Int32.ofNat n.val).toUInt32.toUInt16.toUInt32.toInt32)) := by decide +kernel
theorem own_cc (x : Int32) : ¬ ((255 : Int32) < nar .char ((x &&& (255 : Int32)).toUInt32.toUInt16.toUInt32.toInt32)) := by
  obtain ⟨n, e⟩ := own_and255 x
  rw [e]; exact own_cc' n
theorem own_neBA {Z : State} {h : Heap} {a0 : Array Value} {a b : Addr} {xs : List Int32} (w : (Jvm.Cond.instantiable "java/lang/String" 4).before a0 Z = true) (E : Exa Z h a "java/lang/String") (A : own_BA Z h b xs) : a ≠ b := by obtain ⟨k, z, A, -⟩ := A; exact Exa.neArv E A w
theorem own_dmk_0 : decode method_3_code 0 = .ok (.iload_n 0, 1) := by decide +kernel
theorem own_dmk_1 : decode method_3_code 1 = .ok (.iconst 3, 1) := by decide +kernel
theorem own_dmk_2 : decode method_3_code 2 = .ok (.iand, 1) := by decide +kernel
theorem own_dmk_3 : decode method_3_code 3 = .ok (.istore_n 1, 1) := by decide +kernel
theorem own_dmk_4 : decode method_3_code 4 = .ok (.iload_n 0, 1) := by decide +kernel
theorem own_dmk_5 : decode method_3_code 5 = .ok (.iconst 2, 1) := by decide +kernel
theorem own_dmk_6 : decode method_3_code 6 = .ok (.iushr, 1) := by decide +kernel
theorem own_dmk_7 : decode method_3_code 7 = .ok (.sipush 255, 3) := by decide +kernel
theorem own_dmk_10 : decode method_3_code 10 = .ok (.iand, 1) := by decide +kernel
theorem own_dmk_11 : decode method_3_code 11 = .ok (.i2c, 1) := by decide +kernel
theorem own_dmk_12 : decode method_3_code 12 = .ok (.istore_n 2, 1) := by decide +kernel
theorem own_dmk_13 : decode method_3_code 13 = .ok (.iload_n 0, 1) := by decide +kernel
theorem own_dmk_14 : decode method_3_code 14 = .ok (.bipush 10, 2) := by decide +kernel
theorem own_dmk_16 : decode method_3_code 16 = .ok (.iushr, 1) := by decide +kernel
theorem own_dmk_17 : decode method_3_code 17 = .ok (.sipush 255, 3) := by decide +kernel
theorem own_dmk_20 : decode method_3_code 20 = .ok (.iand, 1) := by decide +kernel
theorem own_dmk_21 : decode method_3_code 21 = .ok (.i2c, 1) := by decide +kernel
theorem own_dmk_22 : decode method_3_code 22 = .ok (.istore_n 3, 1) := by decide +kernel
theorem own_dmk_23 : decode method_3_code 23 = .ok (.iload_n 0, 1) := by decide +kernel
theorem own_dmk_24 : decode method_3_code 24 = .ok (.bipush 18, 2) := by decide +kernel
theorem own_dmk_26 : decode method_3_code 26 = .ok (.iushr, 1) := by decide +kernel
theorem own_dmk_27 : decode method_3_code 27 = .ok (.sipush 255, 3) := by decide +kernel
theorem own_dmk_30 : decode method_3_code 30 = .ok (.iand, 1) := by decide +kernel
theorem own_dmk_31 : decode method_3_code 31 = .ok (.i2c, 1) := by decide +kernel
theorem own_dmk_32 : decode method_3_code 32 = .ok (.istore 4, 2) := by decide +kernel
theorem own_dmk_34 : decode method_3_code 34 = .ok (.iload_n 1, 1) := by decide +kernel
theorem own_dmk_35 : decode method_3_code 35 = .ok (.ifCond .ne 14, 3) := by decide +kernel
theorem own_dmk_38 : decode method_3_code 38 = .ok (.new 30, 3) := by decide +kernel
theorem own_dmk_41 : decode method_3_code 41 = .ok (.dup, 1) := by decide +kernel
theorem own_dmk_42 : decode method_3_code 42 = .ok (.iconst 0, 1) := by decide +kernel
theorem own_dmk_43 : decode method_3_code 43 = .ok (.newarray .char, 2) := by decide +kernel
theorem own_dmk_45 : decode method_3_code 45 = .ok (.invokespecial 32, 3) := by decide +kernel
theorem own_pd_C_V_325 : parseMethodDescriptor "([C)V" = some ⟨[(.array .char)], none⟩ := by decide +kernel
theorem own_dmk_48 : decode method_3_code 48 = .ok (.areturn, 1) := by decide +kernel
theorem own_dmk_49 : decode method_3_code 49 = .ok (.iload_n 1, 1) := by decide +kernel
theorem own_dmk_50 : decode method_3_code 50 = .ok (.iconst 1, 1) := by decide +kernel
theorem own_dmk_51 : decode method_3_code 51 = .ok (.if_icmp .ne 18, 3) := by decide +kernel
theorem own_dmk_54 : decode method_3_code 54 = .ok (.new 30, 3) := by decide +kernel
theorem own_dmk_57 : decode method_3_code 57 = .ok (.dup, 1) := by decide +kernel
theorem own_dmk_58 : decode method_3_code 58 = .ok (.iconst 1, 1) := by decide +kernel
theorem own_dmk_59 : decode method_3_code 59 = .ok (.newarray .char, 2) := by decide +kernel
theorem own_dmk_61 : decode method_3_code 61 = .ok (.dup, 1) := by decide +kernel
theorem own_dmk_62 : decode method_3_code 62 = .ok (.iconst 0, 1) := by decide +kernel
theorem own_dmk_63 : decode method_3_code 63 = .ok (.iload_n 2, 1) := by decide +kernel
theorem own_dmk_64 : decode method_3_code 64 = .ok (.castore, 1) := by decide +kernel
theorem own_dmk_65 : decode method_3_code 65 = .ok (.invokespecial 32, 3) := by decide +kernel
theorem own_dmk_68 : decode method_3_code 68 = .ok (.areturn, 1) := by decide +kernel
theorem own_dmk_69 : decode method_3_code 69 = .ok (.iload_n 1, 1) := by decide +kernel
theorem own_dmk_70 : decode method_3_code 70 = .ok (.iconst 2, 1) := by decide +kernel
theorem own_dmk_71 : decode method_3_code 71 = .ok (.if_icmp .ne 22, 3) := by decide +kernel
theorem own_dmk_74 : decode method_3_code 74 = .ok (.new 30, 3) := by decide +kernel
theorem own_dmk_77 : decode method_3_code 77 = .ok (.dup, 1) := by decide +kernel
theorem own_dmk_78 : decode method_3_code 78 = .ok (.iconst 2, 1) := by decide +kernel
theorem own_dmk_79 : decode method_3_code 79 = .ok (.newarray .char, 2) := by decide +kernel
theorem own_dmk_81 : decode method_3_code 81 = .ok (.dup, 1) := by decide +kernel
theorem own_dmk_82 : decode method_3_code 82 = .ok (.iconst 0, 1) := by decide +kernel
theorem own_dmk_83 : decode method_3_code 83 = .ok (.iload_n 2, 1) := by decide +kernel
theorem own_dmk_84 : decode method_3_code 84 = .ok (.castore, 1) := by decide +kernel
theorem own_dmk_85 : decode method_3_code 85 = .ok (.dup, 1) := by decide +kernel
theorem own_dmk_86 : decode method_3_code 86 = .ok (.iconst 1, 1) := by decide +kernel
theorem own_dmk_87 : decode method_3_code 87 = .ok (.iload_n 3, 1) := by decide +kernel
theorem own_dmk_88 : decode method_3_code 88 = .ok (.castore, 1) := by decide +kernel
theorem own_dmk_89 : decode method_3_code 89 = .ok (.invokespecial 32, 3) := by decide +kernel
theorem own_dmk_92 : decode method_3_code 92 = .ok (.areturn, 1) := by decide +kernel
theorem own_dmk_93 : decode method_3_code 93 = .ok (.new 30, 3) := by decide +kernel
theorem own_dmk_96 : decode method_3_code 96 = .ok (.dup, 1) := by decide +kernel
theorem own_dmk_97 : decode method_3_code 97 = .ok (.iconst 3, 1) := by decide +kernel
theorem own_dmk_98 : decode method_3_code 98 = .ok (.newarray .char, 2) := by decide +kernel
theorem own_dmk_100 : decode method_3_code 100 = .ok (.dup, 1) := by decide +kernel
theorem own_dmk_101 : decode method_3_code 101 = .ok (.iconst 0, 1) := by decide +kernel
theorem own_dmk_102 : decode method_3_code 102 = .ok (.iload_n 2, 1) := by decide +kernel
theorem own_dmk_103 : decode method_3_code 103 = .ok (.castore, 1) := by decide +kernel
theorem own_dmk_104 : decode method_3_code 104 = .ok (.dup, 1) := by decide +kernel
theorem own_dmk_105 : decode method_3_code 105 = .ok (.iconst 1, 1) := by decide +kernel
theorem own_dmk_106 : decode method_3_code 106 = .ok (.iload_n 3, 1) := by decide +kernel
theorem own_dmk_107 : decode method_3_code 107 = .ok (.castore, 1) := by decide +kernel
theorem own_dmk_108 : decode method_3_code 108 = .ok (.dup, 1) := by decide +kernel
theorem own_dmk_109 : decode method_3_code 109 = .ok (.iconst 2, 1) := by decide +kernel
theorem own_dmk_110 : decode method_3_code 110 = .ok (.iload 4, 2) := by decide +kernel
theorem own_dmk_112 : decode method_3_code 112 = .ok (.castore, 1) := by decide +kernel
theorem own_dmk_113 : decode method_3_code 113 = .ok (.invokespecial 32, 3) := by decide +kernel
theorem own_dmk_116 : decode method_3_code 116 = .ok (.areturn, 1) := by decide +kernel
theorem own_efmk (m : MethodId) (p0 : Int32) : entryFrame m #[(.int p0)] 5 = mkF m 0 #[.val (.int p0), .unset, .unset, .unset, .unset] [] := by first | (simp [entryFrame, mkF, argsToLocals, Value.category]; done) | rfl
def own_mkl (p0 : Int32) : List Int32 := if (p0 &&& (3 : Int32)) = (0 : Int32) then [] else if (p0 &&& (3 : Int32)) = (1 : Int32) then [(nar .byte ((nar .char ((((p0.toUInt32 >>> ((2 : Int32) &&& 31).toUInt32).toInt32) &&& (255 : Int32)).toUInt32.toUInt16.toUInt32.toInt32)).toInt8.toInt32))] else if (p0 &&& (3 : Int32)) = (2 : Int32) then [(nar .byte ((nar .char ((((p0.toUInt32 >>> ((2 : Int32) &&& 31).toUInt32).toInt32) &&& (255 : Int32)).toUInt32.toUInt16.toUInt32.toInt32)).toInt8.toInt32)), (nar .byte ((nar .char ((((p0.toUInt32 >>> ((10 : Int32) &&& 31).toUInt32).toInt32) &&& (255 : Int32)).toUInt32.toUInt16.toUInt32.toInt32)).toInt8.toInt32))] else [(nar .byte ((nar .char ((((p0.toUInt32 >>> ((2 : Int32) &&& 31).toUInt32).toInt32) &&& (255 : Int32)).toUInt32.toUInt16.toUInt32.toInt32)).toInt8.toInt32)), (nar .byte ((nar .char ((((p0.toUInt32 >>> ((10 : Int32) &&& 31).toUInt32).toInt32) &&& (255 : Int32)).toUInt32.toUInt16.toUInt32.toInt32)).toInt8.toInt32)), (nar .byte ((nar .char ((((p0.toUInt32 >>> ((18 : Int32) &&& 31).toUInt32).toInt32) &&& (255 : Int32)).toUInt32.toUInt16.toUInt32.toInt32)).toInt8.toInt32))]
set_option maxRecDepth 65536 in
set_option maxHeartbeats 40000000 in
theorem own_mmk (l : Launch) (Z : State) (a0 : Array Value) (hw : ∀ d ∈ tables_1, d.before a0 Z = true) (ws : List Jvm.Cond) (p0 : Int32) (s_String_COMPACT_STRINGS : Int32) (h0 : Heap) (n0 : Nat) (Z0 : n0 ≤ h0.size) (S_String_COMPACT_STRINGS : Sta Z h0 "java/lang/String" "COMPACT_STRINGS" "Z" (.int s_String_COMPACT_STRINGS)) (hnz : ¬ (s_String_COMPACT_STRINGS = (0 : Int32))) :
    own_MetH l Z consts_1 (⟨"com/example/holdfast/holdfast/internal/RouteEqualsPinLaw", "mk", "(I)Ljava/lang/String;"⟩ : MethodName) method_3_code 5 (some (.object "java/lang/String")) ws ({ frames := 4, cells := 7, slots := 24, locals := 66 } : Room) #[(.int p0)] h0 (fun (v : Option Value) (h : Heap) (L : List Loc) => ∃ a b : Addr, v = some (.ref a) ∧ Fr n0 L ∧ Keep h0 h [] ∧ h0.size ≤ a ∧ n0 ≤ a ∧ Exa Z h a "java/lang/String" ∧ Fld Z h a "java/lang/String" "value" "[B" (.ref b) ∧ Fld Z h a "java/lang/String" "coder" "B" (.int 0) ∧ Fld Z h a "java/lang/String" "hash" "I" (.int 0) ∧ Fld Z h a "java/lang/String" "hashIsZero" "Z" (.int 0) ∧ own_BA Z h b (own_mkl p0)) := by
  refine own_enterH (plainFor_of_name own_pn_com_example_holdfast_holdfast_internal_RouteEqualsPinLaw) ?_
  intro p e s m below meth c s₁ P vm0 k0 hx hby hml hrt hlk hown hnm hZ X0 e0 hS hk hC hP
  have N0 := Fr.nil n0
  have K0 := Keep.refl h0 []
  have hml' : c.maxLocals = 5 := hml
  have hEL := own_EW hw
  refine own_cast (own_efmk m p0) ?_
  show own_End p e below P (s₁.setTop (mkF m 0 #[.val (.int p0), .unset, .unset, .unset, .unset] []))
  refine own_st (fun _ => XS.iloadN X0.here hx rfl (hb hby own_dmk_0) rfl) ?_
  show own_End p e below P (s₁.setTop (mkF m 1 #[.val (.int p0), .unset, .unset, .unset, .unset] [(.int p0)]))
  refine own_st (fun _ => XS.iconst X0.here hx rfl (hb hby own_dmk_1)) ?_
  show own_End p e below P (s₁.setTop (mkF m 2 #[.val (.int p0), .unset, .unset, .unset, .unset] [(.int (3 : Int32)), (.int p0)]))
  refine own_st (fun _ => XS.iand X0.here hx rfl (hb hby own_dmk_2) rfl) ?_
  show own_End p e below P (s₁.setTop (mkF m 3 #[.val (.int p0), .unset, .unset, .unset, .unset] [(.int (p0 &&& (3 : Int32)))]))
  refine own_st (fun _ => XS.istoreN X0.here hx rfl (hb hby own_dmk_3) rfl (l' := #[.val (.int p0), .val (.int (p0 &&& (3 : Int32))), .unset, .unset, .unset]) rfl) ?_
  show own_End p e below P (s₁.setTop (mkF m 4 #[.val (.int p0), .val (.int (p0 &&& (3 : Int32))), .unset, .unset, .unset] []))
  refine own_st (fun _ => XS.iloadN X0.here hx rfl (hb hby own_dmk_4) rfl) ?_
  show own_End p e below P (s₁.setTop (mkF m 5 #[.val (.int p0), .val (.int (p0 &&& (3 : Int32))), .unset, .unset, .unset] [(.int p0)]))
  refine own_st (fun _ => XS.iconst X0.here hx rfl (hb hby own_dmk_5)) ?_
  show own_End p e below P (s₁.setTop (mkF m 6 #[.val (.int p0), .val (.int (p0 &&& (3 : Int32))), .unset, .unset, .unset] [(.int (2 : Int32)), (.int p0)]))
  refine own_st (fun _ => XS.iushr X0.here hx rfl (hb hby own_dmk_6) rfl) ?_
  show own_End p e below P (s₁.setTop (mkF m 7 #[.val (.int p0), .val (.int (p0 &&& (3 : Int32))), .unset, .unset, .unset] [(.int ((p0.toUInt32 >>> ((2 : Int32) &&& 31).toUInt32).toInt32))]))
  refine own_st (fun _ => XS.sipush X0.here hx rfl (hb hby own_dmk_7)) ?_
  show own_End p e below P (s₁.setTop (mkF m 10 #[.val (.int p0), .val (.int (p0 &&& (3 : Int32))), .unset, .unset, .unset] [(.int (255 : Int32)), (.int ((p0.toUInt32 >>> ((2 : Int32) &&& 31).toUInt32).toInt32))]))
  refine own_st (fun _ => XS.iand X0.here hx rfl (hb hby own_dmk_10) rfl) ?_
  show own_End p e below P (s₁.setTop (mkF m 11 #[.val (.int p0), .val (.int (p0 &&& (3 : Int32))), .unset, .unset, .unset] [(.int (((p0.toUInt32 >>> ((2 : Int32) &&& 31).toUInt32).toInt32) &&& (255 : Int32)))]))
  refine own_st (fun _ => XS.i2c X0.here hx rfl (hb hby own_dmk_11) rfl) ?_
  show own_End p e below P (s₁.setTop (mkF m 12 #[.val (.int p0), .val (.int (p0 &&& (3 : Int32))), .unset, .unset, .unset] [(.int ((((p0.toUInt32 >>> ((2 : Int32) &&& 31).toUInt32).toInt32) &&& (255 : Int32)).toUInt32.toUInt16.toUInt32.toInt32))]))
  refine own_st (fun _ => XS.istoreN X0.here hx rfl (hb hby own_dmk_12) rfl (l' := #[.val (.int p0), .val (.int (p0 &&& (3 : Int32))), .val (.int ((((p0.toUInt32 >>> ((2 : Int32) &&& 31).toUInt32).toInt32) &&& (255 : Int32)).toUInt32.toUInt16.toUInt32.toInt32)), .unset, .unset]) rfl) ?_
  show own_End p e below P (s₁.setTop (mkF m 13 #[.val (.int p0), .val (.int (p0 &&& (3 : Int32))), .val (.int ((((p0.toUInt32 >>> ((2 : Int32) &&& 31).toUInt32).toInt32) &&& (255 : Int32)).toUInt32.toUInt16.toUInt32.toInt32)), .unset, .unset] []))
  refine own_st (fun _ => XS.iloadN X0.here hx rfl (hb hby own_dmk_13) rfl) ?_
  show own_End p e below P (s₁.setTop (mkF m 14 #[.val (.int p0), .val (.int (p0 &&& (3 : Int32))), .val (.int ((((p0.toUInt32 >>> ((2 : Int32) &&& 31).toUInt32).toInt32) &&& (255 : Int32)).toUInt32.toUInt16.toUInt32.toInt32)), .unset, .unset] [(.int p0)]))
  refine own_st (fun _ => XS.bipush X0.here hx rfl (hb hby own_dmk_14)) ?_
  show own_End p e below P (s₁.setTop (mkF m 16 #[.val (.int p0), .val (.int (p0 &&& (3 : Int32))), .val (.int ((((p0.toUInt32 >>> ((2 : Int32) &&& 31).toUInt32).toInt32) &&& (255 : Int32)).toUInt32.toUInt16.toUInt32.toInt32)), .unset, .unset] [(.int (10 : Int32)), (.int p0)]))
  refine own_st (fun _ => XS.iushr X0.here hx rfl (hb hby own_dmk_16) rfl) ?_
  show own_End p e below P (s₁.setTop (mkF m 17 #[.val (.int p0), .val (.int (p0 &&& (3 : Int32))), .val (.int ((((p0.toUInt32 >>> ((2 : Int32) &&& 31).toUInt32).toInt32) &&& (255 : Int32)).toUInt32.toUInt16.toUInt32.toInt32)), .unset, .unset] [(.int ((p0.toUInt32 >>> ((10 : Int32) &&& 31).toUInt32).toInt32))]))
  refine own_st (fun _ => XS.sipush X0.here hx rfl (hb hby own_dmk_17)) ?_
  show own_End p e below P (s₁.setTop (mkF m 20 #[.val (.int p0), .val (.int (p0 &&& (3 : Int32))), .val (.int ((((p0.toUInt32 >>> ((2 : Int32) &&& 31).toUInt32).toInt32) &&& (255 : Int32)).toUInt32.toUInt16.toUInt32.toInt32)), .unset, .unset] [(.int (255 : Int32)), (.int ((p0.toUInt32 >>> ((10 : Int32) &&& 31).toUInt32).toInt32))]))
  refine own_st (fun _ => XS.iand X0.here hx rfl (hb hby own_dmk_20) rfl) ?_
  show own_End p e below P (s₁.setTop (mkF m 21 #[.val (.int p0), .val (.int (p0 &&& (3 : Int32))), .val (.int ((((p0.toUInt32 >>> ((2 : Int32) &&& 31).toUInt32).toInt32) &&& (255 : Int32)).toUInt32.toUInt16.toUInt32.toInt32)), .unset, .unset] [(.int (((p0.toUInt32 >>> ((10 : Int32) &&& 31).toUInt32).toInt32) &&& (255 : Int32)))]))
  refine own_st (fun _ => XS.i2c X0.here hx rfl (hb hby own_dmk_21) rfl) ?_
  show own_End p e below P (s₁.setTop (mkF m 22 #[.val (.int p0), .val (.int (p0 &&& (3 : Int32))), .val (.int ((((p0.toUInt32 >>> ((2 : Int32) &&& 31).toUInt32).toInt32) &&& (255 : Int32)).toUInt32.toUInt16.toUInt32.toInt32)), .unset, .unset] [(.int ((((p0.toUInt32 >>> ((10 : Int32) &&& 31).toUInt32).toInt32) &&& (255 : Int32)).toUInt32.toUInt16.toUInt32.toInt32))]))
  refine own_st (fun _ => XS.istoreN X0.here hx rfl (hb hby own_dmk_22) rfl (l' := #[.val (.int p0), .val (.int (p0 &&& (3 : Int32))), .val (.int ((((p0.toUInt32 >>> ((2 : Int32) &&& 31).toUInt32).toInt32) &&& (255 : Int32)).toUInt32.toUInt16.toUInt32.toInt32)), .val (.int ((((p0.toUInt32 >>> ((10 : Int32) &&& 31).toUInt32).toInt32) &&& (255 : Int32)).toUInt32.toUInt16.toUInt32.toInt32)), .unset]) rfl) ?_
  show own_End p e below P (s₁.setTop (mkF m 23 #[.val (.int p0), .val (.int (p0 &&& (3 : Int32))), .val (.int ((((p0.toUInt32 >>> ((2 : Int32) &&& 31).toUInt32).toInt32) &&& (255 : Int32)).toUInt32.toUInt16.toUInt32.toInt32)), .val (.int ((((p0.toUInt32 >>> ((10 : Int32) &&& 31).toUInt32).toInt32) &&& (255 : Int32)).toUInt32.toUInt16.toUInt32.toInt32)), .unset] []))
  refine own_st (fun _ => XS.iloadN X0.here hx rfl (hb hby own_dmk_23) rfl) ?_
  show own_End p e below P (s₁.setTop (mkF m 24 #[.val (.int p0), .val (.int (p0 &&& (3 : Int32))), .val (.int ((((p0.toUInt32 >>> ((2 : Int32) &&& 31).toUInt32).toInt32) &&& (255 : Int32)).toUInt32.toUInt16.toUInt32.toInt32)), .val (.int ((((p0.toUInt32 >>> ((10 : Int32) &&& 31).toUInt32).toInt32) &&& (255 : Int32)).toUInt32.toUInt16.toUInt32.toInt32)), .unset] [(.int p0)]))
  refine own_st (fun _ => XS.bipush X0.here hx rfl (hb hby own_dmk_24)) ?_
  show own_End p e below P (s₁.setTop (mkF m 26 #[.val (.int p0), .val (.int (p0 &&& (3 : Int32))), .val (.int ((((p0.toUInt32 >>> ((2 : Int32) &&& 31).toUInt32).toInt32) &&& (255 : Int32)).toUInt32.toUInt16.toUInt32.toInt32)), .val (.int ((((p0.toUInt32 >>> ((10 : Int32) &&& 31).toUInt32).toInt32) &&& (255 : Int32)).toUInt32.toUInt16.toUInt32.toInt32)), .unset] [(.int (18 : Int32)), (.int p0)]))
  refine own_st (fun _ => XS.iushr X0.here hx rfl (hb hby own_dmk_26) rfl) ?_
  show own_End p e below P (s₁.setTop (mkF m 27 #[.val (.int p0), .val (.int (p0 &&& (3 : Int32))), .val (.int ((((p0.toUInt32 >>> ((2 : Int32) &&& 31).toUInt32).toInt32) &&& (255 : Int32)).toUInt32.toUInt16.toUInt32.toInt32)), .val (.int ((((p0.toUInt32 >>> ((10 : Int32) &&& 31).toUInt32).toInt32) &&& (255 : Int32)).toUInt32.toUInt16.toUInt32.toInt32)), .unset] [(.int ((p0.toUInt32 >>> ((18 : Int32) &&& 31).toUInt32).toInt32))]))
  refine own_st (fun _ => XS.sipush X0.here hx rfl (hb hby own_dmk_27)) ?_
  show own_End p e below P (s₁.setTop (mkF m 30 #[.val (.int p0), .val (.int (p0 &&& (3 : Int32))), .val (.int ((((p0.toUInt32 >>> ((2 : Int32) &&& 31).toUInt32).toInt32) &&& (255 : Int32)).toUInt32.toUInt16.toUInt32.toInt32)), .val (.int ((((p0.toUInt32 >>> ((10 : Int32) &&& 31).toUInt32).toInt32) &&& (255 : Int32)).toUInt32.toUInt16.toUInt32.toInt32)), .unset] [(.int (255 : Int32)), (.int ((p0.toUInt32 >>> ((18 : Int32) &&& 31).toUInt32).toInt32))]))
  refine own_st (fun _ => XS.iand X0.here hx rfl (hb hby own_dmk_30) rfl) ?_
  show own_End p e below P (s₁.setTop (mkF m 31 #[.val (.int p0), .val (.int (p0 &&& (3 : Int32))), .val (.int ((((p0.toUInt32 >>> ((2 : Int32) &&& 31).toUInt32).toInt32) &&& (255 : Int32)).toUInt32.toUInt16.toUInt32.toInt32)), .val (.int ((((p0.toUInt32 >>> ((10 : Int32) &&& 31).toUInt32).toInt32) &&& (255 : Int32)).toUInt32.toUInt16.toUInt32.toInt32)), .unset] [(.int (((p0.toUInt32 >>> ((18 : Int32) &&& 31).toUInt32).toInt32) &&& (255 : Int32)))]))
  refine own_st (fun _ => XS.i2c X0.here hx rfl (hb hby own_dmk_31) rfl) ?_
  show own_End p e below P (s₁.setTop (mkF m 32 #[.val (.int p0), .val (.int (p0 &&& (3 : Int32))), .val (.int ((((p0.toUInt32 >>> ((2 : Int32) &&& 31).toUInt32).toInt32) &&& (255 : Int32)).toUInt32.toUInt16.toUInt32.toInt32)), .val (.int ((((p0.toUInt32 >>> ((10 : Int32) &&& 31).toUInt32).toInt32) &&& (255 : Int32)).toUInt32.toUInt16.toUInt32.toInt32)), .unset] [(.int ((((p0.toUInt32 >>> ((18 : Int32) &&& 31).toUInt32).toInt32) &&& (255 : Int32)).toUInt32.toUInt16.toUInt32.toInt32))]))
  refine own_st (fun _ => XS.istore X0.here hx rfl (hb hby own_dmk_32) rfl (l' := #[.val (.int p0), .val (.int (p0 &&& (3 : Int32))), .val (.int ((((p0.toUInt32 >>> ((2 : Int32) &&& 31).toUInt32).toInt32) &&& (255 : Int32)).toUInt32.toUInt16.toUInt32.toInt32)), .val (.int ((((p0.toUInt32 >>> ((10 : Int32) &&& 31).toUInt32).toInt32) &&& (255 : Int32)).toUInt32.toUInt16.toUInt32.toInt32)), .val (.int ((((p0.toUInt32 >>> ((18 : Int32) &&& 31).toUInt32).toInt32) &&& (255 : Int32)).toUInt32.toUInt16.toUInt32.toInt32))]) rfl) ?_
  show own_End p e below P (s₁.setTop (mkF m 34 #[.val (.int p0), .val (.int (p0 &&& (3 : Int32))), .val (.int ((((p0.toUInt32 >>> ((2 : Int32) &&& 31).toUInt32).toInt32) &&& (255 : Int32)).toUInt32.toUInt16.toUInt32.toInt32)), .val (.int ((((p0.toUInt32 >>> ((10 : Int32) &&& 31).toUInt32).toInt32) &&& (255 : Int32)).toUInt32.toUInt16.toUInt32.toInt32)), .val (.int ((((p0.toUInt32 >>> ((18 : Int32) &&& 31).toUInt32).toInt32) &&& (255 : Int32)).toUInt32.toUInt16.toUInt32.toInt32))] []))
  refine own_st (fun _ => XS.iloadN X0.here hx rfl (hb hby own_dmk_34) rfl) ?_
  show own_End p e below P (s₁.setTop (mkF m 35 #[.val (.int p0), .val (.int (p0 &&& (3 : Int32))), .val (.int ((((p0.toUInt32 >>> ((2 : Int32) &&& 31).toUInt32).toInt32) &&& (255 : Int32)).toUInt32.toUInt16.toUInt32.toInt32)), .val (.int ((((p0.toUInt32 >>> ((10 : Int32) &&& 31).toUInt32).toInt32) &&& (255 : Int32)).toUInt32.toUInt16.toUInt32.toInt32)), .val (.int ((((p0.toUInt32 >>> ((18 : Int32) &&& 31).toUInt32).toInt32) &&& (255 : Int32)).toUInt32.toUInt16.toUInt32.toInt32))] [(.int (p0 &&& (3 : Int32)))]))
  by_cases hc1 : (p0 &&& (3 : Int32)) = (0 : Int32)
  · refine own_st (fun _ => XS.ifNo X0.here hx rfl (hb hby own_dmk_35) rfl ((if0 _ _).trans (teq hc1).2)) ?_
    show own_End p e below P (s₁.setTop (mkF m 38 #[.val (.int p0), .val (.int (p0 &&& (3 : Int32))), .val (.int ((((p0.toUInt32 >>> ((2 : Int32) &&& 31).toUInt32).toInt32) &&& (255 : Int32)).toUInt32.toUInt16.toUInt32.toInt32)), .val (.int ((((p0.toUInt32 >>> ((10 : Int32) &&& 31).toUInt32).toInt32) &&& (255 : Int32)).toUInt32.toUInt16.toUInt32.toInt32)), .val (.int ((((p0.toUInt32 >>> ((18 : Int32) &&& 31).toUInt32).toInt32) &&& (255 : Int32)).toUInt32.toUInt16.toUInt32.toInt32))] []))
    obtain ⟨T2, h2, X2, e2, E2, A2, D2, -, st2⟩ := newO X0 hx hZ hown (hw _ (List.mem_of_getElem? (i := 4) rfl)) (hw _ (List.mem_of_getElem? (i := 5) rfl)) (hw _ (List.mem_of_getElem? (i := 6) rfl)) e0 (g := (mkF m 38 #[.val (.int p0), .val (.int (p0 &&& (3 : Int32))), .val (.int ((((p0.toUInt32 >>> ((2 : Int32) &&& 31).toUInt32).toInt32) &&& (255 : Int32)).toUInt32.toUInt16.toUInt32.toInt32)), .val (.int ((((p0.toUInt32 >>> ((10 : Int32) &&& 31).toUInt32).toInt32) &&& (255 : Int32)).toUInt32.toUInt16.toUInt32.toInt32)), .val (.int ((((p0.toUInt32 >>> ((18 : Int32) &&& 31).toUInt32).toInt32) &&& (255 : Int32)).toUInt32.toUInt16.toUInt32.toInt32))] [])) rfl (hb hby own_dmk_38) (by decide) (by decide)
    obtain ⟨b2, g2⟩ : ∃ z, z = h0.size := ⟨_, rfl⟩
    rw [← g2] at A2 D2 st2
    have hC := hC.trans (CHr.ext E2 hC.1)
    have low_b2 : n0 ≤ b2 := Nat.le_trans (Nat.le_trans Z0 K0.1) (Nat.le_of_eq g2.symm)
    have sz_b2 : h0.size ≤ b2 := Nat.le_trans K0.1 (Nat.le_of_eq g2.symm)
    have K2 := Keep.ext K0 E2
    have F_b2_value : Fld Z h2 b2 "java/lang/String" "value" "[B" .null := D2 (Or.inr (hw _ (List.mem_of_getElem? (i := 20) rfl))) (ty := (.array .byte)) (by decide)
    have F_b2_coder : Fld Z h2 b2 "java/lang/String" "coder" "B" (.int (0 : Int32)) := D2 (Or.inr (hw _ (List.mem_of_getElem? (i := 21) rfl))) (ty := .byte) (by decide)
    have F_b2_hash : Fld Z h2 b2 "java/lang/String" "hash" "I" (.int (0 : Int32)) := D2 (Or.inl (hw _ (List.mem_of_getElem? (i := 88) rfl))) (ty := .int) (by decide)
    have F_b2_hashIsZero : Fld Z h2 b2 "java/lang/String" "hashIsZero" "Z" (.int (0 : Int32)) := D2 (Or.inl (hw _ (List.mem_of_getElem? (i := 90) rfl))) (ty := .boolean) (by decide)
    refine own_st (fun _ => st2 _) ?_
    show own_End p e below P (T2.setTop (mkF m 41 #[.val (.int p0), .val (.int (p0 &&& (3 : Int32))), .val (.int ((((p0.toUInt32 >>> ((2 : Int32) &&& 31).toUInt32).toInt32) &&& (255 : Int32)).toUInt32.toUInt16.toUInt32.toInt32)), .val (.int ((((p0.toUInt32 >>> ((10 : Int32) &&& 31).toUInt32).toInt32) &&& (255 : Int32)).toUInt32.toUInt16.toUInt32.toInt32)), .val (.int ((((p0.toUInt32 >>> ((18 : Int32) &&& 31).toUInt32).toInt32) &&& (255 : Int32)).toUInt32.toUInt16.toUInt32.toInt32))] [(.ref b2)]))
    refine own_st (fun _ => XS.dup X2.here hx rfl (hb hby own_dmk_41) rfl rfl) ?_
    show own_End p e below P (T2.setTop (mkF m 42 #[.val (.int p0), .val (.int (p0 &&& (3 : Int32))), .val (.int ((((p0.toUInt32 >>> ((2 : Int32) &&& 31).toUInt32).toInt32) &&& (255 : Int32)).toUInt32.toUInt16.toUInt32.toInt32)), .val (.int ((((p0.toUInt32 >>> ((10 : Int32) &&& 31).toUInt32).toInt32) &&& (255 : Int32)).toUInt32.toUInt16.toUInt32.toInt32)), .val (.int ((((p0.toUInt32 >>> ((18 : Int32) &&& 31).toUInt32).toInt32) &&& (255 : Int32)).toUInt32.toUInt16.toUInt32.toInt32))] [(.ref b2), (.ref b2)]))
    refine own_st (fun _ => XS.iconst X2.here hx rfl (hb hby own_dmk_42)) ?_
    show own_End p e below P (T2.setTop (mkF m 43 #[.val (.int p0), .val (.int (p0 &&& (3 : Int32))), .val (.int ((((p0.toUInt32 >>> ((2 : Int32) &&& 31).toUInt32).toInt32) &&& (255 : Int32)).toUInt32.toUInt16.toUInt32.toInt32)), .val (.int ((((p0.toUInt32 >>> ((10 : Int32) &&& 31).toUInt32).toInt32) &&& (255 : Int32)).toUInt32.toUInt16.toUInt32.toInt32)), .val (.int ((((p0.toUInt32 >>> ((18 : Int32) &&& 31).toUInt32).toInt32) &&& (255 : Int32)).toUInt32.toUInt16.toUInt32.toInt32))] [(.int (0 : Int32)), (.ref b2), (.ref b2)]))
    refine own_newC X2 hx hZ (hw _ (List.mem_of_getElem? (i := 7) rfl)) e2 (j := (0 : Int32)) (n := 0) (by decide) 0 (by decide) (by decide) (by decide) (by decide) (g := (mkF m 43 #[.val (.int p0), .val (.int (p0 &&& (3 : Int32))), .val (.int ((((p0.toUInt32 >>> ((2 : Int32) &&& 31).toUInt32).toInt32) &&& (255 : Int32)).toUInt32.toUInt16.toUInt32.toInt32)), .val (.int ((((p0.toUInt32 >>> ((10 : Int32) &&& 31).toUInt32).toInt32) &&& (255 : Int32)).toUInt32.toUInt16.toUInt32.toInt32)), .val (.int ((((p0.toUInt32 >>> ((18 : Int32) &&& 31).toUInt32).toInt32) &&& (255 : Int32)).toUInt32.toUInt16.toUInt32.toInt32))] [(.int (0 : Int32)), (.ref b2), (.ref b2)])) rfl rfl (hb hby own_dmk_43) (fun T3 h3 X3 e3 E3 B3 => ?_)
    obtain ⟨b3, g3⟩ : ∃ z, z = h2.size := ⟨_, rfl⟩
    rw [← g3] at B3 ⊢
    have hC := hC.trans (CHr.ext E3 hC.1)
    have ne4 : b2 ≠ b3 := Nat.ne_of_lt (Nat.lt_of_lt_of_le A2.lt (Nat.le_of_eq g3.symm))
    have low_b3 : n0 ≤ b3 := Nat.le_trans (Nat.le_trans Z0 K2.1) (Nat.le_of_eq g3.symm)
    have sz_b3 : h0.size ≤ b3 := Nat.le_trans K2.1 (Nat.le_of_eq g3.symm)
    have K3 := Keep.ext K2 E3
    have A3 : own_CA Z h3 b3 [] := B3
    show own_End p e below P (T3.setTop (mkF m 45 #[.val (.int p0), .val (.int (p0 &&& (3 : Int32))), .val (.int ((((p0.toUInt32 >>> ((2 : Int32) &&& 31).toUInt32).toInt32) &&& (255 : Int32)).toUInt32.toUInt16.toUInt32.toInt32)), .val (.int ((((p0.toUInt32 >>> ((10 : Int32) &&& 31).toUInt32).toInt32) &&& (255 : Int32)).toUInt32.toUInt16.toUInt32.toInt32)), .val (.int ((((p0.toUInt32 >>> ((18 : Int32) &&& 31).toUInt32).toInt32) &&& (255 : Int32)).toUInt32.toUInt16.toUInt32.toInt32))] [(.ref b3), (.ref b2), (.ref b2)]))
    have G6 := (A2.ext E3)
    have G7 := (F_b2_value.ext E3)
    have G8 := (F_b2_coder.ext E3)
    have G9 := (F_b2_hash.ext E3)
    have G10 := (F_b2_hashIsZero.ext E3)
    have G11 := (Nat.le_trans (Nat.le_trans hk E2.1) E3.1)
    refine own_callIH X3 hS G11 hEL hC hx hZ (y := (⟨"java/lang/String", "<init>", "([C)V"⟩ : MethodName)) rfl hown (hw _ (List.mem_of_getElem? (i := 8) rfl)) (hw _ (List.mem_of_getElem? (i := 9) rfl)) (hw _ (List.mem_of_getElem? (i := 6) rfl)) (hw _ (List.mem_of_getElem? (i := 10) rfl)) (by decide) (own_mic0 l Z a0 hw [] b2 b3  h3 n0 (Nat.le_trans Z0 K3.1) G6 G7 G8 G9 G10 A3 low_b2) 1 (by decide) (by decide) e3 (by decide) (by decide) (g := (mkF m 45 #[.val (.int p0), .val (.int (p0 &&& (3 : Int32))), .val (.int ((((p0.toUInt32 >>> ((2 : Int32) &&& 31).toUInt32).toInt32) &&& (255 : Int32)).toUInt32.toUInt16.toUInt32.toInt32)), .val (.int ((((p0.toUInt32 >>> ((10 : Int32) &&& 31).toUInt32).toInt32) &&& (255 : Int32)).toUInt32.toUInt16.toUInt32.toInt32)), .val (.int ((((p0.toUInt32 >>> ((18 : Int32) &&& 31).toUInt32).toInt32) &&& (255 : Int32)).toUInt32.toUInt16.toUInt32.toInt32))] [(.ref b3), (.ref b2), (.ref b2)])) rfl (by rw [hml']; rfl) (a := b2) (argsL := [(.ref b3)]) (rest := [(.ref b2)]) rfl (lenOf own_pd_C_V_325 rfl) rfl (by show 2 * 0 + _ ≤ _; exact Nat.le_of_eq rfl) (hb hby own_dmk_45) (fun r5 T5 L5 X5 hQ5 hS hZ hown hC => ?_)
    obtain ⟨v5, rfl, Nq5, Kq5, nv5, ea5, fv5, fc5, fh5, fz5, ba5⟩ := hQ5
    have N5 := Fr.app N0 Nq5
    have K5 := Keep.trans K3 Kq5 (allS (Or.inr sz_b2) all0)
    have hk5 : T5.heap.size ≤ T5.heap.size := Nat.le_refl _
    show own_End p e below P (T5.setTop (mkF m 48 #[.val (.int p0), .val (.int (p0 &&& (3 : Int32))), .val (.int ((((p0.toUInt32 >>> ((2 : Int32) &&& 31).toUInt32).toInt32) &&& (255 : Int32)).toUInt32.toUInt16.toUInt32.toInt32)), .val (.int ((((p0.toUInt32 >>> ((10 : Int32) &&& 31).toUInt32).toInt32) &&& (255 : Int32)).toUInt32.toUInt16.toUInt32.toInt32)), .val (.int ((((p0.toUInt32 >>> ((18 : Int32) &&& 31).toUInt32).toInt32) &&& (255 : Int32)).toUInt32.toUInt16.toUInt32.toInt32))] [(.ref b2)]))
    refine own_retRH X5 hS hk5 rfl hZ hEL hC hx hlk hP rfl rfl hrt (hb hby own_dmk_48) (by decide) (by decide) ?_
    have Am12 : own_BA Z T5.heap v5 (own_mkl p0) := (show own_mkl p0 = [] from (if_pos hc1).trans (rfl)) ▸ ba5
    have hfin : (fun (v : Option Value) (h : Heap) (L : List Loc) => ∃ a b : Addr, v = some (.ref a) ∧ Fr n0 L ∧ Keep h0 h [] ∧ h0.size ≤ a ∧ n0 ≤ a ∧ Exa Z h a "java/lang/String" ∧ Fld Z h a "java/lang/String" "value" "[B" (.ref b) ∧ Fld Z h a "java/lang/String" "coder" "B" (.int 0) ∧ Fld Z h a "java/lang/String" "hash" "I" (.int 0) ∧ Fld Z h a "java/lang/String" "hashIsZero" "Z" (.int 0) ∧ own_BA Z h b (own_mkl p0)) (some (.ref b2)) T5.heap _ := ⟨b2, v5, rfl, N5, K5, sz_b2, low_b2, ea5, fv5, fc5, fh5, fz5, Am12⟩
    exact hfin
  · refine own_st (fun _ => XS.ifYes X0.here hx rfl (pc0 := 35) (pc' := 49) rfl (hb hby own_dmk_35) rfl ((if0 _ _).trans (feq hc1).2) (by decide) (by decide)) ?_
    show own_End p e below P (s₁.setTop (mkF m 49 #[.val (.int p0), .val (.int (p0 &&& (3 : Int32))), .val (.int ((((p0.toUInt32 >>> ((2 : Int32) &&& 31).toUInt32).toInt32) &&& (255 : Int32)).toUInt32.toUInt16.toUInt32.toInt32)), .val (.int ((((p0.toUInt32 >>> ((10 : Int32) &&& 31).toUInt32).toInt32) &&& (255 : Int32)).toUInt32.toUInt16.toUInt32.toInt32)), .val (.int ((((p0.toUInt32 >>> ((18 : Int32) &&& 31).toUInt32).toInt32) &&& (255 : Int32)).toUInt32.toUInt16.toUInt32.toInt32))] []))
    refine own_st (fun _ => XS.iloadN X0.here hx rfl (hb hby own_dmk_49) rfl) ?_
    show own_End p e below P (s₁.setTop (mkF m 50 #[.val (.int p0), .val (.int (p0 &&& (3 : Int32))), .val (.int ((((p0.toUInt32 >>> ((2 : Int32) &&& 31).toUInt32).toInt32) &&& (255 : Int32)).toUInt32.toUInt16.toUInt32.toInt32)), .val (.int ((((p0.toUInt32 >>> ((10 : Int32) &&& 31).toUInt32).toInt32) &&& (255 : Int32)).toUInt32.toUInt16.toUInt32.toInt32)), .val (.int ((((p0.toUInt32 >>> ((18 : Int32) &&& 31).toUInt32).toInt32) &&& (255 : Int32)).toUInt32.toUInt16.toUInt32.toInt32))] [(.int (p0 &&& (3 : Int32)))]))
    refine own_st (fun _ => XS.iconst X0.here hx rfl (hb hby own_dmk_50)) ?_
    show own_End p e below P (s₁.setTop (mkF m 51 #[.val (.int p0), .val (.int (p0 &&& (3 : Int32))), .val (.int ((((p0.toUInt32 >>> ((2 : Int32) &&& 31).toUInt32).toInt32) &&& (255 : Int32)).toUInt32.toUInt16.toUInt32.toInt32)), .val (.int ((((p0.toUInt32 >>> ((10 : Int32) &&& 31).toUInt32).toInt32) &&& (255 : Int32)).toUInt32.toUInt16.toUInt32.toInt32)), .val (.int ((((p0.toUInt32 >>> ((18 : Int32) &&& 31).toUInt32).toInt32) &&& (255 : Int32)).toUInt32.toUInt16.toUInt32.toInt32))] [(.int (1 : Int32)), (.int (p0 &&& (3 : Int32)))]))
    by_cases hc13 : (p0 &&& (3 : Int32)) = (1 : Int32)
    · refine own_st (fun _ => XS.icmpNo X0.here hx rfl (hb hby own_dmk_51) rfl (teq hc13).2) ?_
      show own_End p e below P (s₁.setTop (mkF m 54 #[.val (.int p0), .val (.int (p0 &&& (3 : Int32))), .val (.int ((((p0.toUInt32 >>> ((2 : Int32) &&& 31).toUInt32).toInt32) &&& (255 : Int32)).toUInt32.toUInt16.toUInt32.toInt32)), .val (.int ((((p0.toUInt32 >>> ((10 : Int32) &&& 31).toUInt32).toInt32) &&& (255 : Int32)).toUInt32.toUInt16.toUInt32.toInt32)), .val (.int ((((p0.toUInt32 >>> ((18 : Int32) &&& 31).toUInt32).toInt32) &&& (255 : Int32)).toUInt32.toUInt16.toUInt32.toInt32))] []))
      obtain ⟨T14, h14, X14, e14, E14, A14, D14, -, st14⟩ := newO X0 hx hZ hown (hw _ (List.mem_of_getElem? (i := 4) rfl)) (hw _ (List.mem_of_getElem? (i := 5) rfl)) (hw _ (List.mem_of_getElem? (i := 6) rfl)) e0 (g := (mkF m 54 #[.val (.int p0), .val (.int (p0 &&& (3 : Int32))), .val (.int ((((p0.toUInt32 >>> ((2 : Int32) &&& 31).toUInt32).toInt32) &&& (255 : Int32)).toUInt32.toUInt16.toUInt32.toInt32)), .val (.int ((((p0.toUInt32 >>> ((10 : Int32) &&& 31).toUInt32).toInt32) &&& (255 : Int32)).toUInt32.toUInt16.toUInt32.toInt32)), .val (.int ((((p0.toUInt32 >>> ((18 : Int32) &&& 31).toUInt32).toInt32) &&& (255 : Int32)).toUInt32.toUInt16.toUInt32.toInt32))] [])) rfl (hb hby own_dmk_54) (by decide) (by decide)
      obtain ⟨b14, g14⟩ : ∃ z, z = h0.size := ⟨_, rfl⟩
      rw [← g14] at A14 D14 st14
      have hC := hC.trans (CHr.ext E14 hC.1)
      have low_b14 : n0 ≤ b14 := Nat.le_trans (Nat.le_trans Z0 K0.1) (Nat.le_of_eq g14.symm)
      have sz_b14 : h0.size ≤ b14 := Nat.le_trans K0.1 (Nat.le_of_eq g14.symm)
      have K14 := Keep.ext K0 E14
      have F_b14_value : Fld Z h14 b14 "java/lang/String" "value" "[B" .null := D14 (Or.inr (hw _ (List.mem_of_getElem? (i := 20) rfl))) (ty := (.array .byte)) (by decide)
      have F_b14_coder : Fld Z h14 b14 "java/lang/String" "coder" "B" (.int (0 : Int32)) := D14 (Or.inr (hw _ (List.mem_of_getElem? (i := 21) rfl))) (ty := .byte) (by decide)
      have F_b14_hash : Fld Z h14 b14 "java/lang/String" "hash" "I" (.int (0 : Int32)) := D14 (Or.inl (hw _ (List.mem_of_getElem? (i := 88) rfl))) (ty := .int) (by decide)
      have F_b14_hashIsZero : Fld Z h14 b14 "java/lang/String" "hashIsZero" "Z" (.int (0 : Int32)) := D14 (Or.inl (hw _ (List.mem_of_getElem? (i := 90) rfl))) (ty := .boolean) (by decide)
      refine own_st (fun _ => st14 _) ?_
      show own_End p e below P (T14.setTop (mkF m 57 #[.val (.int p0), .val (.int (p0 &&& (3 : Int32))), .val (.int ((((p0.toUInt32 >>> ((2 : Int32) &&& 31).toUInt32).toInt32) &&& (255 : Int32)).toUInt32.toUInt16.toUInt32.toInt32)), .val (.int ((((p0.toUInt32 >>> ((10 : Int32) &&& 31).toUInt32).toInt32) &&& (255 : Int32)).toUInt32.toUInt16.toUInt32.toInt32)), .val (.int ((((p0.toUInt32 >>> ((18 : Int32) &&& 31).toUInt32).toInt32) &&& (255 : Int32)).toUInt32.toUInt16.toUInt32.toInt32))] [(.ref b14)]))
      refine own_st (fun _ => XS.dup X14.here hx rfl (hb hby own_dmk_57) rfl rfl) ?_
      show own_End p e below P (T14.setTop (mkF m 58 #[.val (.int p0), .val (.int (p0 &&& (3 : Int32))), .val (.int ((((p0.toUInt32 >>> ((2 : Int32) &&& 31).toUInt32).toInt32) &&& (255 : Int32)).toUInt32.toUInt16.toUInt32.toInt32)), .val (.int ((((p0.toUInt32 >>> ((10 : Int32) &&& 31).toUInt32).toInt32) &&& (255 : Int32)).toUInt32.toUInt16.toUInt32.toInt32)), .val (.int ((((p0.toUInt32 >>> ((18 : Int32) &&& 31).toUInt32).toInt32) &&& (255 : Int32)).toUInt32.toUInt16.toUInt32.toInt32))] [(.ref b14), (.ref b14)]))
      refine own_st (fun _ => XS.iconst X14.here hx rfl (hb hby own_dmk_58)) ?_
      show own_End p e below P (T14.setTop (mkF m 59 #[.val (.int p0), .val (.int (p0 &&& (3 : Int32))), .val (.int ((((p0.toUInt32 >>> ((2 : Int32) &&& 31).toUInt32).toInt32) &&& (255 : Int32)).toUInt32.toUInt16.toUInt32.toInt32)), .val (.int ((((p0.toUInt32 >>> ((10 : Int32) &&& 31).toUInt32).toInt32) &&& (255 : Int32)).toUInt32.toUInt16.toUInt32.toInt32)), .val (.int ((((p0.toUInt32 >>> ((18 : Int32) &&& 31).toUInt32).toInt32) &&& (255 : Int32)).toUInt32.toUInt16.toUInt32.toInt32))] [(.int (1 : Int32)), (.ref b14), (.ref b14)]))
      refine own_newC X14 hx hZ (hw _ (List.mem_of_getElem? (i := 7) rfl)) e14 (j := (1 : Int32)) (n := 1) (by decide) 1 (by decide) (by decide) (by decide) (by decide) (g := (mkF m 59 #[.val (.int p0), .val (.int (p0 &&& (3 : Int32))), .val (.int ((((p0.toUInt32 >>> ((2 : Int32) &&& 31).toUInt32).toInt32) &&& (255 : Int32)).toUInt32.toUInt16.toUInt32.toInt32)), .val (.int ((((p0.toUInt32 >>> ((10 : Int32) &&& 31).toUInt32).toInt32) &&& (255 : Int32)).toUInt32.toUInt16.toUInt32.toInt32)), .val (.int ((((p0.toUInt32 >>> ((18 : Int32) &&& 31).toUInt32).toInt32) &&& (255 : Int32)).toUInt32.toUInt16.toUInt32.toInt32))] [(.int (1 : Int32)), (.ref b14), (.ref b14)])) rfl rfl (hb hby own_dmk_59) (fun T15 h15 X15 e15 E15 B15 => ?_)
      obtain ⟨b15, g15⟩ : ∃ z, z = h14.size := ⟨_, rfl⟩
      rw [← g15] at B15 ⊢
      have hC := hC.trans (CHr.ext E15 hC.1)
      have ne16 : b14 ≠ b15 := Nat.ne_of_lt (Nat.lt_of_lt_of_le A14.lt (Nat.le_of_eq g15.symm))
      have low_b15 : n0 ≤ b15 := Nat.le_trans (Nat.le_trans Z0 K14.1) (Nat.le_of_eq g15.symm)
      have sz_b15 : h0.size ≤ b15 := Nat.le_trans K14.1 (Nat.le_of_eq g15.symm)
      have K15 := Keep.ext K14 E15
      have A15 : own_CA Z h15 b15 [(0 : Int32)] := B15
      show own_End p e below P (T15.setTop (mkF m 61 #[.val (.int p0), .val (.int (p0 &&& (3 : Int32))), .val (.int ((((p0.toUInt32 >>> ((2 : Int32) &&& 31).toUInt32).toInt32) &&& (255 : Int32)).toUInt32.toUInt16.toUInt32.toInt32)), .val (.int ((((p0.toUInt32 >>> ((10 : Int32) &&& 31).toUInt32).toInt32) &&& (255 : Int32)).toUInt32.toUInt16.toUInt32.toInt32)), .val (.int ((((p0.toUInt32 >>> ((18 : Int32) &&& 31).toUInt32).toInt32) &&& (255 : Int32)).toUInt32.toUInt16.toUInt32.toInt32))] [(.ref b15), (.ref b14), (.ref b14)]))
      refine own_st (fun _ => XS.dup X15.here hx rfl (hb hby own_dmk_61) rfl rfl) ?_
      show own_End p e below P (T15.setTop (mkF m 62 #[.val (.int p0), .val (.int (p0 &&& (3 : Int32))), .val (.int ((((p0.toUInt32 >>> ((2 : Int32) &&& 31).toUInt32).toInt32) &&& (255 : Int32)).toUInt32.toUInt16.toUInt32.toInt32)), .val (.int ((((p0.toUInt32 >>> ((10 : Int32) &&& 31).toUInt32).toInt32) &&& (255 : Int32)).toUInt32.toUInt16.toUInt32.toInt32)), .val (.int ((((p0.toUInt32 >>> ((18 : Int32) &&& 31).toUInt32).toInt32) &&& (255 : Int32)).toUInt32.toUInt16.toUInt32.toInt32))] [(.ref b15), (.ref b15), (.ref b14), (.ref b14)]))
      refine own_st (fun _ => XS.iconst X15.here hx rfl (hb hby own_dmk_62)) ?_
      show own_End p e below P (T15.setTop (mkF m 63 #[.val (.int p0), .val (.int (p0 &&& (3 : Int32))), .val (.int ((((p0.toUInt32 >>> ((2 : Int32) &&& 31).toUInt32).toInt32) &&& (255 : Int32)).toUInt32.toUInt16.toUInt32.toInt32)), .val (.int ((((p0.toUInt32 >>> ((10 : Int32) &&& 31).toUInt32).toInt32) &&& (255 : Int32)).toUInt32.toUInt16.toUInt32.toInt32)), .val (.int ((((p0.toUInt32 >>> ((18 : Int32) &&& 31).toUInt32).toInt32) &&& (255 : Int32)).toUInt32.toUInt16.toUInt32.toInt32))] [(.int (0 : Int32)), (.ref b15), (.ref b15), (.ref b14), (.ref b14)]))
      refine own_st (fun _ => XS.iloadN X15.here hx rfl (hb hby own_dmk_63) rfl) ?_
      show own_End p e below P (T15.setTop (mkF m 64 #[.val (.int p0), .val (.int (p0 &&& (3 : Int32))), .val (.int ((((p0.toUInt32 >>> ((2 : Int32) &&& 31).toUInt32).toInt32) &&& (255 : Int32)).toUInt32.toUInt16.toUInt32.toInt32)), .val (.int ((((p0.toUInt32 >>> ((10 : Int32) &&& 31).toUInt32).toInt32) &&& (255 : Int32)).toUInt32.toUInt16.toUInt32.toInt32)), .val (.int ((((p0.toUInt32 >>> ((18 : Int32) &&& 31).toUInt32).toInt32) &&& (255 : Int32)).toUInt32.toUInt16.toUInt32.toInt32))] [(.int ((((p0.toUInt32 >>> ((2 : Int32) &&& 31).toUInt32).toInt32) &&& (255 : Int32)).toUInt32.toUInt16.toUInt32.toInt32)), (.int (0 : Int32)), (.ref b15), (.ref b15), (.ref b14), (.ref b14)]))
      refine own_castore X15 hx hZ e15 A15 (j := (0 : Int32)) (v := ((((p0.toUInt32 >>> ((2 : Int32) &&& 31).toUInt32).toInt32) &&& (255 : Int32)).toUInt32.toUInt16.toUInt32.toInt32)) (i := 0) (by decide) (by show (0 : Nat) < 1; decide) (g := (mkF m 64 #[.val (.int p0), .val (.int (p0 &&& (3 : Int32))), .val (.int ((((p0.toUInt32 >>> ((2 : Int32) &&& 31).toUInt32).toInt32) &&& (255 : Int32)).toUInt32.toUInt16.toUInt32.toInt32)), .val (.int ((((p0.toUInt32 >>> ((10 : Int32) &&& 31).toUInt32).toInt32) &&& (255 : Int32)).toUInt32.toUInt16.toUInt32.toInt32)), .val (.int ((((p0.toUInt32 >>> ((18 : Int32) &&& 31).toUInt32).toInt32) &&& (255 : Int32)).toUInt32.toUInt16.toUInt32.toInt32))] [(.int ((((p0.toUInt32 >>> ((2 : Int32) &&& 31).toUInt32).toInt32) &&& (255 : Int32)).toUInt32.toUInt16.toUInt32.toInt32)), (.int (0 : Int32)), (.ref b15), (.ref b15), (.ref b14), (.ref b14)])) rfl rfl (hb hby own_dmk_64) (fun T17 h17 X17 e17 W17 B17 => ?_)
      have A17 : own_CA Z h17 b15 [(nar .char ((((p0.toUInt32 >>> ((2 : Int32) &&& 31).toUInt32).toInt32) &&& (255 : Int32)).toUInt32.toUInt16.toUInt32.toInt32))] := B17
      have Sf17 := (A15.safe (EL := consts_1) hZ.alike)
      have hC := hC.trans (CHr.wr W17 Sf17 hC.1)
      have N17 := Fr.snoc X17 N0 low_b15
      have K17 := Keep.wr K15 W17 (Or.inr sz_b15)
      show own_End p e below P (T17.setTop (mkF m 65 #[.val (.int p0), .val (.int (p0 &&& (3 : Int32))), .val (.int ((((p0.toUInt32 >>> ((2 : Int32) &&& 31).toUInt32).toInt32) &&& (255 : Int32)).toUInt32.toUInt16.toUInt32.toInt32)), .val (.int ((((p0.toUInt32 >>> ((10 : Int32) &&& 31).toUInt32).toInt32) &&& (255 : Int32)).toUInt32.toUInt16.toUInt32.toInt32)), .val (.int ((((p0.toUInt32 >>> ((18 : Int32) &&& 31).toUInt32).toInt32) &&& (255 : Int32)).toUInt32.toUInt16.toUInt32.toInt32))] [(.ref b15), (.ref b14), (.ref b14)]))
      have G19 := ((A14.ext E15).wr W17)
      have G20 := ((F_b14_value.ext E15).other W17 (Or.inl ne16))
      have G21 := ((F_b14_coder.ext E15).other W17 (Or.inl ne16))
      have G22 := ((F_b14_hash.ext E15).other W17 (Or.inl ne16))
      have G23 := ((F_b14_hashIsZero.ext E15).other W17 (Or.inl ne16))
      have G24 := (((S_String_COMPACT_STRINGS.ext E14).ext E15).wr W17)
      refine own_callI X17 hx hZ (y := (⟨"java/lang/String", "<init>", "([C)V"⟩ : MethodName)) rfl hown (hw _ (List.mem_of_getElem? (i := 8) rfl)) (hw _ (List.mem_of_getElem? (i := 9) rfl)) (hw _ (List.mem_of_getElem? (i := 6) rfl)) (hw _ (List.mem_of_getElem? (i := 10) rfl)) (by decide) (own_mic1 l Z a0 hw [] b14 b15 (nar .char ((((p0.toUInt32 >>> ((2 : Int32) &&& 31).toUInt32).toInt32) &&& (255 : Int32)).toUInt32.toUInt16.toUInt32.toInt32)) s_String_COMPACT_STRINGS h17 n0 (Nat.le_trans Z0 K17.1) G19 G20 G21 G22 G23 G24 A17 low_b14 (own_cc _) hnz) 1 (by decide) (by decide) e17 (by decide) (by decide) (g := (mkF m 65 #[.val (.int p0), .val (.int (p0 &&& (3 : Int32))), .val (.int ((((p0.toUInt32 >>> ((2 : Int32) &&& 31).toUInt32).toInt32) &&& (255 : Int32)).toUInt32.toUInt16.toUInt32.toInt32)), .val (.int ((((p0.toUInt32 >>> ((10 : Int32) &&& 31).toUInt32).toInt32) &&& (255 : Int32)).toUInt32.toUInt16.toUInt32.toInt32)), .val (.int ((((p0.toUInt32 >>> ((18 : Int32) &&& 31).toUInt32).toInt32) &&& (255 : Int32)).toUInt32.toUInt16.toUInt32.toInt32))] [(.ref b15), (.ref b14), (.ref b14)])) rfl (by rw [hml']; rfl) (a := b14) (argsL := [(.ref b15)]) (rest := [(.ref b14)]) rfl (lenOf own_pd_C_V_325 rfl) rfl (by show 2 * 0 + _ ≤ _; exact Nat.le_of_eq rfl) (hb hby own_dmk_65) (fun r18 T18 L18 X18 hQ18 => ?_)
      obtain ⟨b1_3_1_18, rfl, Nq18, Kq18, szq_b1_3_1_18, low_b1_3_1_18, f0_18, f1_18, f2_18, f3_18, f4_18, f5_18⟩ := hQ18
      have N18 := Fr.app N17 Nq18
      have ne25 : b14 ≠ b1_3_1_18 := Nat.ne_of_lt (Nat.lt_of_lt_of_le G19.lt szq_b1_3_1_18)
      have ne26 : b15 ≠ b1_3_1_18 := Nat.ne_of_lt (Nat.lt_of_lt_of_le A17.lt szq_b1_3_1_18)
      have sz_b1_3_1_18 := Nat.le_trans K17.1 szq_b1_3_1_18
      have hC := hC.trans (CHr.keep Kq18 (sfS (own_safeNull (EL := consts_1) hZ.alike G19 G20) sf0) hC.1)
      have K18 := Keep.trans K17 Kq18 (allS (Or.inr sz_b14) all0)
      show own_End p e below P (T18.setTop (mkF m 68 #[.val (.int p0), .val (.int (p0 &&& (3 : Int32))), .val (.int ((((p0.toUInt32 >>> ((2 : Int32) &&& 31).toUInt32).toInt32) &&& (255 : Int32)).toUInt32.toUInt16.toUInt32.toInt32)), .val (.int ((((p0.toUInt32 >>> ((10 : Int32) &&& 31).toUInt32).toInt32) &&& (255 : Int32)).toUInt32.toUInt16.toUInt32.toInt32)), .val (.int ((((p0.toUInt32 >>> ((18 : Int32) &&& 31).toUInt32).toInt32) &&& (255 : Int32)).toUInt32.toUInt16.toUInt32.toInt32))] [(.ref b14)]))
      have G27 := (Nat.le_trans (Nat.le_trans (Nat.le_trans (Nat.le_trans hk E14.1) E15.1) (Keep.of_wr W17).1) Kq18.1)
      refine own_retRH X18 hS G27 rfl hZ hEL hC hx hlk hP rfl rfl hrt (hb hby own_dmk_68) (by decide) (by decide) ?_
      have Am28 : own_BA Z T18.heap b1_3_1_18 (own_mkl p0) := (show own_mkl p0 = [(nar .byte ((nar .char ((((p0.toUInt32 >>> ((2 : Int32) &&& 31).toUInt32).toInt32) &&& (255 : Int32)).toUInt32.toUInt16.toUInt32.toInt32)).toInt8.toInt32))] from (if_neg hc1).trans ((if_pos hc13).trans (rfl))) ▸ f5_18
      have hfin : (fun (v : Option Value) (h : Heap) (L : List Loc) => ∃ a b : Addr, v = some (.ref a) ∧ Fr n0 L ∧ Keep h0 h [] ∧ h0.size ≤ a ∧ n0 ≤ a ∧ Exa Z h a "java/lang/String" ∧ Fld Z h a "java/lang/String" "value" "[B" (.ref b) ∧ Fld Z h a "java/lang/String" "coder" "B" (.int 0) ∧ Fld Z h a "java/lang/String" "hash" "I" (.int 0) ∧ Fld Z h a "java/lang/String" "hashIsZero" "Z" (.int 0) ∧ own_BA Z h b (own_mkl p0)) (some (.ref b14)) T18.heap _ := ⟨b14, b1_3_1_18, rfl, N18, K18, sz_b14, low_b14, f0_18, f1_18, f2_18, f3_18, f4_18, Am28⟩
      exact hfin
    · refine own_st (fun _ => XS.icmpYes X0.here hx rfl (pc0 := 51) (pc' := 69) rfl (hb hby own_dmk_51) rfl (feq hc13).2 (by decide) (by decide)) ?_
      show own_End p e below P (s₁.setTop (mkF m 69 #[.val (.int p0), .val (.int (p0 &&& (3 : Int32))), .val (.int ((((p0.toUInt32 >>> ((2 : Int32) &&& 31).toUInt32).toInt32) &&& (255 : Int32)).toUInt32.toUInt16.toUInt32.toInt32)), .val (.int ((((p0.toUInt32 >>> ((10 : Int32) &&& 31).toUInt32).toInt32) &&& (255 : Int32)).toUInt32.toUInt16.toUInt32.toInt32)), .val (.int ((((p0.toUInt32 >>> ((18 : Int32) &&& 31).toUInt32).toInt32) &&& (255 : Int32)).toUInt32.toUInt16.toUInt32.toInt32))] []))
      refine own_st (fun _ => XS.iloadN X0.here hx rfl (hb hby own_dmk_69) rfl) ?_
      show own_End p e below P (s₁.setTop (mkF m 70 #[.val (.int p0), .val (.int (p0 &&& (3 : Int32))), .val (.int ((((p0.toUInt32 >>> ((2 : Int32) &&& 31).toUInt32).toInt32) &&& (255 : Int32)).toUInt32.toUInt16.toUInt32.toInt32)), .val (.int ((((p0.toUInt32 >>> ((10 : Int32) &&& 31).toUInt32).toInt32) &&& (255 : Int32)).toUInt32.toUInt16.toUInt32.toInt32)), .val (.int ((((p0.toUInt32 >>> ((18 : Int32) &&& 31).toUInt32).toInt32) &&& (255 : Int32)).toUInt32.toUInt16.toUInt32.toInt32))] [(.int (p0 &&& (3 : Int32)))]))
      refine own_st (fun _ => XS.iconst X0.here hx rfl (hb hby own_dmk_70)) ?_
      show own_End p e below P (s₁.setTop (mkF m 71 #[.val (.int p0), .val (.int (p0 &&& (3 : Int32))), .val (.int ((((p0.toUInt32 >>> ((2 : Int32) &&& 31).toUInt32).toInt32) &&& (255 : Int32)).toUInt32.toUInt16.toUInt32.toInt32)), .val (.int ((((p0.toUInt32 >>> ((10 : Int32) &&& 31).toUInt32).toInt32) &&& (255 : Int32)).toUInt32.toUInt16.toUInt32.toInt32)), .val (.int ((((p0.toUInt32 >>> ((18 : Int32) &&& 31).toUInt32).toInt32) &&& (255 : Int32)).toUInt32.toUInt16.toUInt32.toInt32))] [(.int (2 : Int32)), (.int (p0 &&& (3 : Int32)))]))
      by_cases hc29 : (p0 &&& (3 : Int32)) = (2 : Int32)
      · refine own_st (fun _ => XS.icmpNo X0.here hx rfl (hb hby own_dmk_71) rfl (teq hc29).2) ?_
        show own_End p e below P (s₁.setTop (mkF m 74 #[.val (.int p0), .val (.int (p0 &&& (3 : Int32))), .val (.int ((((p0.toUInt32 >>> ((2 : Int32) &&& 31).toUInt32).toInt32) &&& (255 : Int32)).toUInt32.toUInt16.toUInt32.toInt32)), .val (.int ((((p0.toUInt32 >>> ((10 : Int32) &&& 31).toUInt32).toInt32) &&& (255 : Int32)).toUInt32.toUInt16.toUInt32.toInt32)), .val (.int ((((p0.toUInt32 >>> ((18 : Int32) &&& 31).toUInt32).toInt32) &&& (255 : Int32)).toUInt32.toUInt16.toUInt32.toInt32))] []))
        obtain ⟨T30, h30, X30, e30, E30, A30, D30, -, st30⟩ := newO X0 hx hZ hown (hw _ (List.mem_of_getElem? (i := 4) rfl)) (hw _ (List.mem_of_getElem? (i := 5) rfl)) (hw _ (List.mem_of_getElem? (i := 6) rfl)) e0 (g := (mkF m 74 #[.val (.int p0), .val (.int (p0 &&& (3 : Int32))), .val (.int ((((p0.toUInt32 >>> ((2 : Int32) &&& 31).toUInt32).toInt32) &&& (255 : Int32)).toUInt32.toUInt16.toUInt32.toInt32)), .val (.int ((((p0.toUInt32 >>> ((10 : Int32) &&& 31).toUInt32).toInt32) &&& (255 : Int32)).toUInt32.toUInt16.toUInt32.toInt32)), .val (.int ((((p0.toUInt32 >>> ((18 : Int32) &&& 31).toUInt32).toInt32) &&& (255 : Int32)).toUInt32.toUInt16.toUInt32.toInt32))] [])) rfl (hb hby own_dmk_74) (by decide) (by decide)
        obtain ⟨b30, g30⟩ : ∃ z, z = h0.size := ⟨_, rfl⟩
        rw [← g30] at A30 D30 st30
        have hC := hC.trans (CHr.ext E30 hC.1)
        have low_b30 : n0 ≤ b30 := Nat.le_trans (Nat.le_trans Z0 K0.1) (Nat.le_of_eq g30.symm)
        have sz_b30 : h0.size ≤ b30 := Nat.le_trans K0.1 (Nat.le_of_eq g30.symm)
        have K30 := Keep.ext K0 E30
        have F_b30_value : Fld Z h30 b30 "java/lang/String" "value" "[B" .null := D30 (Or.inr (hw _ (List.mem_of_getElem? (i := 20) rfl))) (ty := (.array .byte)) (by decide)
        have F_b30_coder : Fld Z h30 b30 "java/lang/String" "coder" "B" (.int (0 : Int32)) := D30 (Or.inr (hw _ (List.mem_of_getElem? (i := 21) rfl))) (ty := .byte) (by decide)
        have F_b30_hash : Fld Z h30 b30 "java/lang/String" "hash" "I" (.int (0 : Int32)) := D30 (Or.inl (hw _ (List.mem_of_getElem? (i := 88) rfl))) (ty := .int) (by decide)
        have F_b30_hashIsZero : Fld Z h30 b30 "java/lang/String" "hashIsZero" "Z" (.int (0 : Int32)) := D30 (Or.inl (hw _ (List.mem_of_getElem? (i := 90) rfl))) (ty := .boolean) (by decide)
        refine own_st (fun _ => st30 _) ?_
        show own_End p e below P (T30.setTop (mkF m 77 #[.val (.int p0), .val (.int (p0 &&& (3 : Int32))), .val (.int ((((p0.toUInt32 >>> ((2 : Int32) &&& 31).toUInt32).toInt32) &&& (255 : Int32)).toUInt32.toUInt16.toUInt32.toInt32)), .val (.int ((((p0.toUInt32 >>> ((10 : Int32) &&& 31).toUInt32).toInt32) &&& (255 : Int32)).toUInt32.toUInt16.toUInt32.toInt32)), .val (.int ((((p0.toUInt32 >>> ((18 : Int32) &&& 31).toUInt32).toInt32) &&& (255 : Int32)).toUInt32.toUInt16.toUInt32.toInt32))] [(.ref b30)]))
        refine own_st (fun _ => XS.dup X30.here hx rfl (hb hby own_dmk_77) rfl rfl) ?_
        show own_End p e below P (T30.setTop (mkF m 78 #[.val (.int p0), .val (.int (p0 &&& (3 : Int32))), .val (.int ((((p0.toUInt32 >>> ((2 : Int32) &&& 31).toUInt32).toInt32) &&& (255 : Int32)).toUInt32.toUInt16.toUInt32.toInt32)), .val (.int ((((p0.toUInt32 >>> ((10 : Int32) &&& 31).toUInt32).toInt32) &&& (255 : Int32)).toUInt32.toUInt16.toUInt32.toInt32)), .val (.int ((((p0.toUInt32 >>> ((18 : Int32) &&& 31).toUInt32).toInt32) &&& (255 : Int32)).toUInt32.toUInt16.toUInt32.toInt32))] [(.ref b30), (.ref b30)]))
        refine own_st (fun _ => XS.iconst X30.here hx rfl (hb hby own_dmk_78)) ?_
        show own_End p e below P (T30.setTop (mkF m 79 #[.val (.int p0), .val (.int (p0 &&& (3 : Int32))), .val (.int ((((p0.toUInt32 >>> ((2 : Int32) &&& 31).toUInt32).toInt32) &&& (255 : Int32)).toUInt32.toUInt16.toUInt32.toInt32)), .val (.int ((((p0.toUInt32 >>> ((10 : Int32) &&& 31).toUInt32).toInt32) &&& (255 : Int32)).toUInt32.toUInt16.toUInt32.toInt32)), .val (.int ((((p0.toUInt32 >>> ((18 : Int32) &&& 31).toUInt32).toInt32) &&& (255 : Int32)).toUInt32.toUInt16.toUInt32.toInt32))] [(.int (2 : Int32)), (.ref b30), (.ref b30)]))
        refine own_newC X30 hx hZ (hw _ (List.mem_of_getElem? (i := 7) rfl)) e30 (j := (2 : Int32)) (n := 2) (by decide) 2 (by decide) (by decide) (by decide) (by decide) (g := (mkF m 79 #[.val (.int p0), .val (.int (p0 &&& (3 : Int32))), .val (.int ((((p0.toUInt32 >>> ((2 : Int32) &&& 31).toUInt32).toInt32) &&& (255 : Int32)).toUInt32.toUInt16.toUInt32.toInt32)), .val (.int ((((p0.toUInt32 >>> ((10 : Int32) &&& 31).toUInt32).toInt32) &&& (255 : Int32)).toUInt32.toUInt16.toUInt32.toInt32)), .val (.int ((((p0.toUInt32 >>> ((18 : Int32) &&& 31).toUInt32).toInt32) &&& (255 : Int32)).toUInt32.toUInt16.toUInt32.toInt32))] [(.int (2 : Int32)), (.ref b30), (.ref b30)])) rfl rfl (hb hby own_dmk_79) (fun T31 h31 X31 e31 E31 B31 => ?_)
        obtain ⟨b31, g31⟩ : ∃ z, z = h30.size := ⟨_, rfl⟩
        rw [← g31] at B31 ⊢
        have hC := hC.trans (CHr.ext E31 hC.1)
        have ne32 : b30 ≠ b31 := Nat.ne_of_lt (Nat.lt_of_lt_of_le A30.lt (Nat.le_of_eq g31.symm))
        have low_b31 : n0 ≤ b31 := Nat.le_trans (Nat.le_trans Z0 K30.1) (Nat.le_of_eq g31.symm)
        have sz_b31 : h0.size ≤ b31 := Nat.le_trans K30.1 (Nat.le_of_eq g31.symm)
        have K31 := Keep.ext K30 E31
        have A31 : own_CA Z h31 b31 [(0 : Int32), (0 : Int32)] := B31
        show own_End p e below P (T31.setTop (mkF m 81 #[.val (.int p0), .val (.int (p0 &&& (3 : Int32))), .val (.int ((((p0.toUInt32 >>> ((2 : Int32) &&& 31).toUInt32).toInt32) &&& (255 : Int32)).toUInt32.toUInt16.toUInt32.toInt32)), .val (.int ((((p0.toUInt32 >>> ((10 : Int32) &&& 31).toUInt32).toInt32) &&& (255 : Int32)).toUInt32.toUInt16.toUInt32.toInt32)), .val (.int ((((p0.toUInt32 >>> ((18 : Int32) &&& 31).toUInt32).toInt32) &&& (255 : Int32)).toUInt32.toUInt16.toUInt32.toInt32))] [(.ref b31), (.ref b30), (.ref b30)]))
        refine own_st (fun _ => XS.dup X31.here hx rfl (hb hby own_dmk_81) rfl rfl) ?_
        show own_End p e below P (T31.setTop (mkF m 82 #[.val (.int p0), .val (.int (p0 &&& (3 : Int32))), .val (.int ((((p0.toUInt32 >>> ((2 : Int32) &&& 31).toUInt32).toInt32) &&& (255 : Int32)).toUInt32.toUInt16.toUInt32.toInt32)), .val (.int ((((p0.toUInt32 >>> ((10 : Int32) &&& 31).toUInt32).toInt32) &&& (255 : Int32)).toUInt32.toUInt16.toUInt32.toInt32)), .val (.int ((((p0.toUInt32 >>> ((18 : Int32) &&& 31).toUInt32).toInt32) &&& (255 : Int32)).toUInt32.toUInt16.toUInt32.toInt32))] [(.ref b31), (.ref b31), (.ref b30), (.ref b30)]))
        refine own_st (fun _ => XS.iconst X31.here hx rfl (hb hby own_dmk_82)) ?_
        show own_End p e below P (T31.setTop (mkF m 83 #[.val (.int p0), .val (.int (p0 &&& (3 : Int32))), .val (.int ((((p0.toUInt32 >>> ((2 : Int32) &&& 31).toUInt32).toInt32) &&& (255 : Int32)).toUInt32.toUInt16.toUInt32.toInt32)), .val (.int ((((p0.toUInt32 >>> ((10 : Int32) &&& 31).toUInt32).toInt32) &&& (255 : Int32)).toUInt32.toUInt16.toUInt32.toInt32)), .val (.int ((((p0.toUInt32 >>> ((18 : Int32) &&& 31).toUInt32).toInt32) &&& (255 : Int32)).toUInt32.toUInt16.toUInt32.toInt32))] [(.int (0 : Int32)), (.ref b31), (.ref b31), (.ref b30), (.ref b30)]))
        refine own_st (fun _ => XS.iloadN X31.here hx rfl (hb hby own_dmk_83) rfl) ?_
        show own_End p e below P (T31.setTop (mkF m 84 #[.val (.int p0), .val (.int (p0 &&& (3 : Int32))), .val (.int ((((p0.toUInt32 >>> ((2 : Int32) &&& 31).toUInt32).toInt32) &&& (255 : Int32)).toUInt32.toUInt16.toUInt32.toInt32)), .val (.int ((((p0.toUInt32 >>> ((10 : Int32) &&& 31).toUInt32).toInt32) &&& (255 : Int32)).toUInt32.toUInt16.toUInt32.toInt32)), .val (.int ((((p0.toUInt32 >>> ((18 : Int32) &&& 31).toUInt32).toInt32) &&& (255 : Int32)).toUInt32.toUInt16.toUInt32.toInt32))] [(.int ((((p0.toUInt32 >>> ((2 : Int32) &&& 31).toUInt32).toInt32) &&& (255 : Int32)).toUInt32.toUInt16.toUInt32.toInt32)), (.int (0 : Int32)), (.ref b31), (.ref b31), (.ref b30), (.ref b30)]))
        refine own_castore X31 hx hZ e31 A31 (j := (0 : Int32)) (v := ((((p0.toUInt32 >>> ((2 : Int32) &&& 31).toUInt32).toInt32) &&& (255 : Int32)).toUInt32.toUInt16.toUInt32.toInt32)) (i := 0) (by decide) (by show (0 : Nat) < 2; decide) (g := (mkF m 84 #[.val (.int p0), .val (.int (p0 &&& (3 : Int32))), .val (.int ((((p0.toUInt32 >>> ((2 : Int32) &&& 31).toUInt32).toInt32) &&& (255 : Int32)).toUInt32.toUInt16.toUInt32.toInt32)), .val (.int ((((p0.toUInt32 >>> ((10 : Int32) &&& 31).toUInt32).toInt32) &&& (255 : Int32)).toUInt32.toUInt16.toUInt32.toInt32)), .val (.int ((((p0.toUInt32 >>> ((18 : Int32) &&& 31).toUInt32).toInt32) &&& (255 : Int32)).toUInt32.toUInt16.toUInt32.toInt32))] [(.int ((((p0.toUInt32 >>> ((2 : Int32) &&& 31).toUInt32).toInt32) &&& (255 : Int32)).toUInt32.toUInt16.toUInt32.toInt32)), (.int (0 : Int32)), (.ref b31), (.ref b31), (.ref b30), (.ref b30)])) rfl rfl (hb hby own_dmk_84) (fun T33 h33 X33 e33 W33 B33 => ?_)
        have A33 : own_CA Z h33 b31 [(nar .char ((((p0.toUInt32 >>> ((2 : Int32) &&& 31).toUInt32).toInt32) &&& (255 : Int32)).toUInt32.toUInt16.toUInt32.toInt32)), (0 : Int32)] := B33
        have Sf33 := (A31.safe (EL := consts_1) hZ.alike)
        have hC := hC.trans (CHr.wr W33 Sf33 hC.1)
        have N33 := Fr.snoc X33 N0 low_b31
        have K33 := Keep.wr K31 W33 (Or.inr sz_b31)
        show own_End p e below P (T33.setTop (mkF m 85 #[.val (.int p0), .val (.int (p0 &&& (3 : Int32))), .val (.int ((((p0.toUInt32 >>> ((2 : Int32) &&& 31).toUInt32).toInt32) &&& (255 : Int32)).toUInt32.toUInt16.toUInt32.toInt32)), .val (.int ((((p0.toUInt32 >>> ((10 : Int32) &&& 31).toUInt32).toInt32) &&& (255 : Int32)).toUInt32.toUInt16.toUInt32.toInt32)), .val (.int ((((p0.toUInt32 >>> ((18 : Int32) &&& 31).toUInt32).toInt32) &&& (255 : Int32)).toUInt32.toUInt16.toUInt32.toInt32))] [(.ref b31), (.ref b30), (.ref b30)]))
        refine own_st (fun _ => XS.dup X33.here hx rfl (hb hby own_dmk_85) rfl rfl) ?_
        show own_End p e below P (T33.setTop (mkF m 86 #[.val (.int p0), .val (.int (p0 &&& (3 : Int32))), .val (.int ((((p0.toUInt32 >>> ((2 : Int32) &&& 31).toUInt32).toInt32) &&& (255 : Int32)).toUInt32.toUInt16.toUInt32.toInt32)), .val (.int ((((p0.toUInt32 >>> ((10 : Int32) &&& 31).toUInt32).toInt32) &&& (255 : Int32)).toUInt32.toUInt16.toUInt32.toInt32)), .val (.int ((((p0.toUInt32 >>> ((18 : Int32) &&& 31).toUInt32).toInt32) &&& (255 : Int32)).toUInt32.toUInt16.toUInt32.toInt32))] [(.ref b31), (.ref b31), (.ref b30), (.ref b30)]))
        refine own_st (fun _ => XS.iconst X33.here hx rfl (hb hby own_dmk_86)) ?_
        show own_End p e below P (T33.setTop (mkF m 87 #[.val (.int p0), .val (.int (p0 &&& (3 : Int32))), .val (.int ((((p0.toUInt32 >>> ((2 : Int32) &&& 31).toUInt32).toInt32) &&& (255 : Int32)).toUInt32.toUInt16.toUInt32.toInt32)), .val (.int ((((p0.toUInt32 >>> ((10 : Int32) &&& 31).toUInt32).toInt32) &&& (255 : Int32)).toUInt32.toUInt16.toUInt32.toInt32)), .val (.int ((((p0.toUInt32 >>> ((18 : Int32) &&& 31).toUInt32).toInt32) &&& (255 : Int32)).toUInt32.toUInt16.toUInt32.toInt32))] [(.int (1 : Int32)), (.ref b31), (.ref b31), (.ref b30), (.ref b30)]))
        refine own_st (fun _ => XS.iloadN X33.here hx rfl (hb hby own_dmk_87) rfl) ?_
        show own_End p e below P (T33.setTop (mkF m 88 #[.val (.int p0), .val (.int (p0 &&& (3 : Int32))), .val (.int ((((p0.toUInt32 >>> ((2 : Int32) &&& 31).toUInt32).toInt32) &&& (255 : Int32)).toUInt32.toUInt16.toUInt32.toInt32)), .val (.int ((((p0.toUInt32 >>> ((10 : Int32) &&& 31).toUInt32).toInt32) &&& (255 : Int32)).toUInt32.toUInt16.toUInt32.toInt32)), .val (.int ((((p0.toUInt32 >>> ((18 : Int32) &&& 31).toUInt32).toInt32) &&& (255 : Int32)).toUInt32.toUInt16.toUInt32.toInt32))] [(.int ((((p0.toUInt32 >>> ((10 : Int32) &&& 31).toUInt32).toInt32) &&& (255 : Int32)).toUInt32.toUInt16.toUInt32.toInt32)), (.int (1 : Int32)), (.ref b31), (.ref b31), (.ref b30), (.ref b30)]))
        refine own_castore X33 hx hZ e33 A33 (j := (1 : Int32)) (v := ((((p0.toUInt32 >>> ((10 : Int32) &&& 31).toUInt32).toInt32) &&& (255 : Int32)).toUInt32.toUInt16.toUInt32.toInt32)) (i := 1) (by decide) (by show (1 : Nat) < 2; decide) (g := (mkF m 88 #[.val (.int p0), .val (.int (p0 &&& (3 : Int32))), .val (.int ((((p0.toUInt32 >>> ((2 : Int32) &&& 31).toUInt32).toInt32) &&& (255 : Int32)).toUInt32.toUInt16.toUInt32.toInt32)), .val (.int ((((p0.toUInt32 >>> ((10 : Int32) &&& 31).toUInt32).toInt32) &&& (255 : Int32)).toUInt32.toUInt16.toUInt32.toInt32)), .val (.int ((((p0.toUInt32 >>> ((18 : Int32) &&& 31).toUInt32).toInt32) &&& (255 : Int32)).toUInt32.toUInt16.toUInt32.toInt32))] [(.int ((((p0.toUInt32 >>> ((10 : Int32) &&& 31).toUInt32).toInt32) &&& (255 : Int32)).toUInt32.toUInt16.toUInt32.toInt32)), (.int (1 : Int32)), (.ref b31), (.ref b31), (.ref b30), (.ref b30)])) rfl rfl (hb hby own_dmk_88) (fun T34 h34 X34 e34 W34 B34 => ?_)
        have A34 : own_CA Z h34 b31 [(nar .char ((((p0.toUInt32 >>> ((2 : Int32) &&& 31).toUInt32).toInt32) &&& (255 : Int32)).toUInt32.toUInt16.toUInt32.toInt32)), (nar .char ((((p0.toUInt32 >>> ((10 : Int32) &&& 31).toUInt32).toInt32) &&& (255 : Int32)).toUInt32.toUInt16.toUInt32.toInt32))] := B34
        have Sf34 := (A33.safe (EL := consts_1) hZ.alike)
        have hC := hC.trans (CHr.wr W34 Sf34 hC.1)
        have N34 := Fr.snoc X34 N33 low_b31
        have K34 := Keep.wr K33 W34 (Or.inr sz_b31)
        show own_End p e below P (T34.setTop (mkF m 89 #[.val (.int p0), .val (.int (p0 &&& (3 : Int32))), .val (.int ((((p0.toUInt32 >>> ((2 : Int32) &&& 31).toUInt32).toInt32) &&& (255 : Int32)).toUInt32.toUInt16.toUInt32.toInt32)), .val (.int ((((p0.toUInt32 >>> ((10 : Int32) &&& 31).toUInt32).toInt32) &&& (255 : Int32)).toUInt32.toUInt16.toUInt32.toInt32)), .val (.int ((((p0.toUInt32 >>> ((18 : Int32) &&& 31).toUInt32).toInt32) &&& (255 : Int32)).toUInt32.toUInt16.toUInt32.toInt32))] [(.ref b31), (.ref b30), (.ref b30)]))
        have G36 := (((A30.ext E31).wr W33).wr W34)
        have G37 := (((F_b30_value.ext E31).other W33 (Or.inl ne32)).other W34 (Or.inl ne32))
        have G38 := (((F_b30_coder.ext E31).other W33 (Or.inl ne32)).other W34 (Or.inl ne32))
        have G39 := (((F_b30_hash.ext E31).other W33 (Or.inl ne32)).other W34 (Or.inl ne32))
        have G40 := (((F_b30_hashIsZero.ext E31).other W33 (Or.inl ne32)).other W34 (Or.inl ne32))
        have G41 := ((((S_String_COMPACT_STRINGS.ext E30).ext E31).wr W33).wr W34)
        refine own_callI X34 hx hZ (y := (⟨"java/lang/String", "<init>", "([C)V"⟩ : MethodName)) rfl hown (hw _ (List.mem_of_getElem? (i := 8) rfl)) (hw _ (List.mem_of_getElem? (i := 9) rfl)) (hw _ (List.mem_of_getElem? (i := 6) rfl)) (hw _ (List.mem_of_getElem? (i := 10) rfl)) (by decide) (own_mic2 l Z a0 hw [] b30 b31 (nar .char ((((p0.toUInt32 >>> ((2 : Int32) &&& 31).toUInt32).toInt32) &&& (255 : Int32)).toUInt32.toUInt16.toUInt32.toInt32)) (nar .char ((((p0.toUInt32 >>> ((10 : Int32) &&& 31).toUInt32).toInt32) &&& (255 : Int32)).toUInt32.toUInt16.toUInt32.toInt32)) s_String_COMPACT_STRINGS h34 n0 (Nat.le_trans Z0 K34.1) G36 G37 G38 G39 G40 G41 A34 low_b30 (own_cc _) (own_cc _) hnz) 1 (by decide) (by decide) e34 (by decide) (by decide) (g := (mkF m 89 #[.val (.int p0), .val (.int (p0 &&& (3 : Int32))), .val (.int ((((p0.toUInt32 >>> ((2 : Int32) &&& 31).toUInt32).toInt32) &&& (255 : Int32)).toUInt32.toUInt16.toUInt32.toInt32)), .val (.int ((((p0.toUInt32 >>> ((10 : Int32) &&& 31).toUInt32).toInt32) &&& (255 : Int32)).toUInt32.toUInt16.toUInt32.toInt32)), .val (.int ((((p0.toUInt32 >>> ((18 : Int32) &&& 31).toUInt32).toInt32) &&& (255 : Int32)).toUInt32.toUInt16.toUInt32.toInt32))] [(.ref b31), (.ref b30), (.ref b30)])) rfl (by rw [hml']; rfl) (a := b30) (argsL := [(.ref b31)]) (rest := [(.ref b30)]) rfl (lenOf own_pd_C_V_325 rfl) rfl (by show 2 * 0 + _ ≤ _; exact Nat.le_of_eq rfl) (hb hby own_dmk_89) (fun r35 T35 L35 X35 hQ35 => ?_)
        obtain ⟨b1_3_1_35, rfl, Nq35, Kq35, szq_b1_3_1_35, low_b1_3_1_35, f0_35, f1_35, f2_35, f3_35, f4_35, f5_35⟩ := hQ35
        have N35 := Fr.app N34 Nq35
        have ne42 : b30 ≠ b1_3_1_35 := Nat.ne_of_lt (Nat.lt_of_lt_of_le G36.lt szq_b1_3_1_35)
        have ne43 : b31 ≠ b1_3_1_35 := Nat.ne_of_lt (Nat.lt_of_lt_of_le A34.lt szq_b1_3_1_35)
        have sz_b1_3_1_35 := Nat.le_trans K34.1 szq_b1_3_1_35
        have hC := hC.trans (CHr.keep Kq35 (sfS (own_safeNull (EL := consts_1) hZ.alike G36 G37) sf0) hC.1)
        have K35 := Keep.trans K34 Kq35 (allS (Or.inr sz_b30) all0)
        show own_End p e below P (T35.setTop (mkF m 92 #[.val (.int p0), .val (.int (p0 &&& (3 : Int32))), .val (.int ((((p0.toUInt32 >>> ((2 : Int32) &&& 31).toUInt32).toInt32) &&& (255 : Int32)).toUInt32.toUInt16.toUInt32.toInt32)), .val (.int ((((p0.toUInt32 >>> ((10 : Int32) &&& 31).toUInt32).toInt32) &&& (255 : Int32)).toUInt32.toUInt16.toUInt32.toInt32)), .val (.int ((((p0.toUInt32 >>> ((18 : Int32) &&& 31).toUInt32).toInt32) &&& (255 : Int32)).toUInt32.toUInt16.toUInt32.toInt32))] [(.ref b30)]))
        have G44 := (Nat.le_trans (Nat.le_trans (Nat.le_trans (Nat.le_trans (Nat.le_trans hk E30.1) E31.1) (Keep.of_wr W33).1) (Keep.of_wr W34).1) Kq35.1)
        refine own_retRH X35 hS G44 rfl hZ hEL hC hx hlk hP rfl rfl hrt (hb hby own_dmk_92) (by decide) (by decide) ?_
        have Am45 : own_BA Z T35.heap b1_3_1_35 (own_mkl p0) := (show own_mkl p0 = [(nar .byte ((nar .char ((((p0.toUInt32 >>> ((2 : Int32) &&& 31).toUInt32).toInt32) &&& (255 : Int32)).toUInt32.toUInt16.toUInt32.toInt32)).toInt8.toInt32)), (nar .byte ((nar .char ((((p0.toUInt32 >>> ((10 : Int32) &&& 31).toUInt32).toInt32) &&& (255 : Int32)).toUInt32.toUInt16.toUInt32.toInt32)).toInt8.toInt32))] from (if_neg hc1).trans ((if_neg hc13).trans ((if_pos hc29).trans (rfl)))) ▸ f5_35
        have hfin : (fun (v : Option Value) (h : Heap) (L : List Loc) => ∃ a b : Addr, v = some (.ref a) ∧ Fr n0 L ∧ Keep h0 h [] ∧ h0.size ≤ a ∧ n0 ≤ a ∧ Exa Z h a "java/lang/String" ∧ Fld Z h a "java/lang/String" "value" "[B" (.ref b) ∧ Fld Z h a "java/lang/String" "coder" "B" (.int 0) ∧ Fld Z h a "java/lang/String" "hash" "I" (.int 0) ∧ Fld Z h a "java/lang/String" "hashIsZero" "Z" (.int 0) ∧ own_BA Z h b (own_mkl p0)) (some (.ref b30)) T35.heap _ := ⟨b30, b1_3_1_35, rfl, N35, K35, sz_b30, low_b30, f0_35, f1_35, f2_35, f3_35, f4_35, Am45⟩
        exact hfin
      · refine own_st (fun _ => XS.icmpYes X0.here hx rfl (pc0 := 71) (pc' := 93) rfl (hb hby own_dmk_71) rfl (feq hc29).2 (by decide) (by decide)) ?_
        show own_End p e below P (s₁.setTop (mkF m 93 #[.val (.int p0), .val (.int (p0 &&& (3 : Int32))), .val (.int ((((p0.toUInt32 >>> ((2 : Int32) &&& 31).toUInt32).toInt32) &&& (255 : Int32)).toUInt32.toUInt16.toUInt32.toInt32)), .val (.int ((((p0.toUInt32 >>> ((10 : Int32) &&& 31).toUInt32).toInt32) &&& (255 : Int32)).toUInt32.toUInt16.toUInt32.toInt32)), .val (.int ((((p0.toUInt32 >>> ((18 : Int32) &&& 31).toUInt32).toInt32) &&& (255 : Int32)).toUInt32.toUInt16.toUInt32.toInt32))] []))
        obtain ⟨T46, h46, X46, e46, E46, A46, D46, -, st46⟩ := newO X0 hx hZ hown (hw _ (List.mem_of_getElem? (i := 4) rfl)) (hw _ (List.mem_of_getElem? (i := 5) rfl)) (hw _ (List.mem_of_getElem? (i := 6) rfl)) e0 (g := (mkF m 93 #[.val (.int p0), .val (.int (p0 &&& (3 : Int32))), .val (.int ((((p0.toUInt32 >>> ((2 : Int32) &&& 31).toUInt32).toInt32) &&& (255 : Int32)).toUInt32.toUInt16.toUInt32.toInt32)), .val (.int ((((p0.toUInt32 >>> ((10 : Int32) &&& 31).toUInt32).toInt32) &&& (255 : Int32)).toUInt32.toUInt16.toUInt32.toInt32)), .val (.int ((((p0.toUInt32 >>> ((18 : Int32) &&& 31).toUInt32).toInt32) &&& (255 : Int32)).toUInt32.toUInt16.toUInt32.toInt32))] [])) rfl (hb hby own_dmk_93) (by decide) (by decide)
        obtain ⟨b46, g46⟩ : ∃ z, z = h0.size := ⟨_, rfl⟩
        rw [← g46] at A46 D46 st46
        have hC := hC.trans (CHr.ext E46 hC.1)
        have low_b46 : n0 ≤ b46 := Nat.le_trans (Nat.le_trans Z0 K0.1) (Nat.le_of_eq g46.symm)
        have sz_b46 : h0.size ≤ b46 := Nat.le_trans K0.1 (Nat.le_of_eq g46.symm)
        have K46 := Keep.ext K0 E46
        have F_b46_value : Fld Z h46 b46 "java/lang/String" "value" "[B" .null := D46 (Or.inr (hw _ (List.mem_of_getElem? (i := 20) rfl))) (ty := (.array .byte)) (by decide)
        have F_b46_coder : Fld Z h46 b46 "java/lang/String" "coder" "B" (.int (0 : Int32)) := D46 (Or.inr (hw _ (List.mem_of_getElem? (i := 21) rfl))) (ty := .byte) (by decide)
        have F_b46_hash : Fld Z h46 b46 "java/lang/String" "hash" "I" (.int (0 : Int32)) := D46 (Or.inl (hw _ (List.mem_of_getElem? (i := 88) rfl))) (ty := .int) (by decide)
        have F_b46_hashIsZero : Fld Z h46 b46 "java/lang/String" "hashIsZero" "Z" (.int (0 : Int32)) := D46 (Or.inl (hw _ (List.mem_of_getElem? (i := 90) rfl))) (ty := .boolean) (by decide)
        refine own_st (fun _ => st46 _) ?_
        show own_End p e below P (T46.setTop (mkF m 96 #[.val (.int p0), .val (.int (p0 &&& (3 : Int32))), .val (.int ((((p0.toUInt32 >>> ((2 : Int32) &&& 31).toUInt32).toInt32) &&& (255 : Int32)).toUInt32.toUInt16.toUInt32.toInt32)), .val (.int ((((p0.toUInt32 >>> ((10 : Int32) &&& 31).toUInt32).toInt32) &&& (255 : Int32)).toUInt32.toUInt16.toUInt32.toInt32)), .val (.int ((((p0.toUInt32 >>> ((18 : Int32) &&& 31).toUInt32).toInt32) &&& (255 : Int32)).toUInt32.toUInt16.toUInt32.toInt32))] [(.ref b46)]))
        refine own_st (fun _ => XS.dup X46.here hx rfl (hb hby own_dmk_96) rfl rfl) ?_
        show own_End p e below P (T46.setTop (mkF m 97 #[.val (.int p0), .val (.int (p0 &&& (3 : Int32))), .val (.int ((((p0.toUInt32 >>> ((2 : Int32) &&& 31).toUInt32).toInt32) &&& (255 : Int32)).toUInt32.toUInt16.toUInt32.toInt32)), .val (.int ((((p0.toUInt32 >>> ((10 : Int32) &&& 31).toUInt32).toInt32) &&& (255 : Int32)).toUInt32.toUInt16.toUInt32.toInt32)), .val (.int ((((p0.toUInt32 >>> ((18 : Int32) &&& 31).toUInt32).toInt32) &&& (255 : Int32)).toUInt32.toUInt16.toUInt32.toInt32))] [(.ref b46), (.ref b46)]))
        refine own_st (fun _ => XS.iconst X46.here hx rfl (hb hby own_dmk_97)) ?_
        show own_End p e below P (T46.setTop (mkF m 98 #[.val (.int p0), .val (.int (p0 &&& (3 : Int32))), .val (.int ((((p0.toUInt32 >>> ((2 : Int32) &&& 31).toUInt32).toInt32) &&& (255 : Int32)).toUInt32.toUInt16.toUInt32.toInt32)), .val (.int ((((p0.toUInt32 >>> ((10 : Int32) &&& 31).toUInt32).toInt32) &&& (255 : Int32)).toUInt32.toUInt16.toUInt32.toInt32)), .val (.int ((((p0.toUInt32 >>> ((18 : Int32) &&& 31).toUInt32).toInt32) &&& (255 : Int32)).toUInt32.toUInt16.toUInt32.toInt32))] [(.int (3 : Int32)), (.ref b46), (.ref b46)]))
        refine own_newC X46 hx hZ (hw _ (List.mem_of_getElem? (i := 7) rfl)) e46 (j := (3 : Int32)) (n := 3) (by decide) 3 (by decide) (by decide) (by decide) (by decide) (g := (mkF m 98 #[.val (.int p0), .val (.int (p0 &&& (3 : Int32))), .val (.int ((((p0.toUInt32 >>> ((2 : Int32) &&& 31).toUInt32).toInt32) &&& (255 : Int32)).toUInt32.toUInt16.toUInt32.toInt32)), .val (.int ((((p0.toUInt32 >>> ((10 : Int32) &&& 31).toUInt32).toInt32) &&& (255 : Int32)).toUInt32.toUInt16.toUInt32.toInt32)), .val (.int ((((p0.toUInt32 >>> ((18 : Int32) &&& 31).toUInt32).toInt32) &&& (255 : Int32)).toUInt32.toUInt16.toUInt32.toInt32))] [(.int (3 : Int32)), (.ref b46), (.ref b46)])) rfl rfl (hb hby own_dmk_98) (fun T47 h47 X47 e47 E47 B47 => ?_)
        obtain ⟨b47, g47⟩ : ∃ z, z = h46.size := ⟨_, rfl⟩
        rw [← g47] at B47 ⊢
        have hC := hC.trans (CHr.ext E47 hC.1)
        have ne48 : b46 ≠ b47 := Nat.ne_of_lt (Nat.lt_of_lt_of_le A46.lt (Nat.le_of_eq g47.symm))
        have low_b47 : n0 ≤ b47 := Nat.le_trans (Nat.le_trans Z0 K46.1) (Nat.le_of_eq g47.symm)
        have sz_b47 : h0.size ≤ b47 := Nat.le_trans K46.1 (Nat.le_of_eq g47.symm)
        have K47 := Keep.ext K46 E47
        have A47 : own_CA Z h47 b47 [(0 : Int32), (0 : Int32), (0 : Int32)] := B47
        show own_End p e below P (T47.setTop (mkF m 100 #[.val (.int p0), .val (.int (p0 &&& (3 : Int32))), .val (.int ((((p0.toUInt32 >>> ((2 : Int32) &&& 31).toUInt32).toInt32) &&& (255 : Int32)).toUInt32.toUInt16.toUInt32.toInt32)), .val (.int ((((p0.toUInt32 >>> ((10 : Int32) &&& 31).toUInt32).toInt32) &&& (255 : Int32)).toUInt32.toUInt16.toUInt32.toInt32)), .val (.int ((((p0.toUInt32 >>> ((18 : Int32) &&& 31).toUInt32).toInt32) &&& (255 : Int32)).toUInt32.toUInt16.toUInt32.toInt32))] [(.ref b47), (.ref b46), (.ref b46)]))
        refine own_st (fun _ => XS.dup X47.here hx rfl (hb hby own_dmk_100) rfl rfl) ?_
        show own_End p e below P (T47.setTop (mkF m 101 #[.val (.int p0), .val (.int (p0 &&& (3 : Int32))), .val (.int ((((p0.toUInt32 >>> ((2 : Int32) &&& 31).toUInt32).toInt32) &&& (255 : Int32)).toUInt32.toUInt16.toUInt32.toInt32)), .val (.int ((((p0.toUInt32 >>> ((10 : Int32) &&& 31).toUInt32).toInt32) &&& (255 : Int32)).toUInt32.toUInt16.toUInt32.toInt32)), .val (.int ((((p0.toUInt32 >>> ((18 : Int32) &&& 31).toUInt32).toInt32) &&& (255 : Int32)).toUInt32.toUInt16.toUInt32.toInt32))] [(.ref b47), (.ref b47), (.ref b46), (.ref b46)]))
        refine own_st (fun _ => XS.iconst X47.here hx rfl (hb hby own_dmk_101)) ?_
        show own_End p e below P (T47.setTop (mkF m 102 #[.val (.int p0), .val (.int (p0 &&& (3 : Int32))), .val (.int ((((p0.toUInt32 >>> ((2 : Int32) &&& 31).toUInt32).toInt32) &&& (255 : Int32)).toUInt32.toUInt16.toUInt32.toInt32)), .val (.int ((((p0.toUInt32 >>> ((10 : Int32) &&& 31).toUInt32).toInt32) &&& (255 : Int32)).toUInt32.toUInt16.toUInt32.toInt32)), .val (.int ((((p0.toUInt32 >>> ((18 : Int32) &&& 31).toUInt32).toInt32) &&& (255 : Int32)).toUInt32.toUInt16.toUInt32.toInt32))] [(.int (0 : Int32)), (.ref b47), (.ref b47), (.ref b46), (.ref b46)]))
        refine own_st (fun _ => XS.iloadN X47.here hx rfl (hb hby own_dmk_102) rfl) ?_
        show own_End p e below P (T47.setTop (mkF m 103 #[.val (.int p0), .val (.int (p0 &&& (3 : Int32))), .val (.int ((((p0.toUInt32 >>> ((2 : Int32) &&& 31).toUInt32).toInt32) &&& (255 : Int32)).toUInt32.toUInt16.toUInt32.toInt32)), .val (.int ((((p0.toUInt32 >>> ((10 : Int32) &&& 31).toUInt32).toInt32) &&& (255 : Int32)).toUInt32.toUInt16.toUInt32.toInt32)), .val (.int ((((p0.toUInt32 >>> ((18 : Int32) &&& 31).toUInt32).toInt32) &&& (255 : Int32)).toUInt32.toUInt16.toUInt32.toInt32))] [(.int ((((p0.toUInt32 >>> ((2 : Int32) &&& 31).toUInt32).toInt32) &&& (255 : Int32)).toUInt32.toUInt16.toUInt32.toInt32)), (.int (0 : Int32)), (.ref b47), (.ref b47), (.ref b46), (.ref b46)]))
        refine own_castore X47 hx hZ e47 A47 (j := (0 : Int32)) (v := ((((p0.toUInt32 >>> ((2 : Int32) &&& 31).toUInt32).toInt32) &&& (255 : Int32)).toUInt32.toUInt16.toUInt32.toInt32)) (i := 0) (by decide) (by show (0 : Nat) < 3; decide) (g := (mkF m 103 #[.val (.int p0), .val (.int (p0 &&& (3 : Int32))), .val (.int ((((p0.toUInt32 >>> ((2 : Int32) &&& 31).toUInt32).toInt32) &&& (255 : Int32)).toUInt32.toUInt16.toUInt32.toInt32)), .val (.int ((((p0.toUInt32 >>> ((10 : Int32) &&& 31).toUInt32).toInt32) &&& (255 : Int32)).toUInt32.toUInt16.toUInt32.toInt32)), .val (.int ((((p0.toUInt32 >>> ((18 : Int32) &&& 31).toUInt32).toInt32) &&& (255 : Int32)).toUInt32.toUInt16.toUInt32.toInt32))] [(.int ((((p0.toUInt32 >>> ((2 : Int32) &&& 31).toUInt32).toInt32) &&& (255 : Int32)).toUInt32.toUInt16.toUInt32.toInt32)), (.int (0 : Int32)), (.ref b47), (.ref b47), (.ref b46), (.ref b46)])) rfl rfl (hb hby own_dmk_103) (fun T49 h49 X49 e49 W49 B49 => ?_)
        have A49 : own_CA Z h49 b47 [(nar .char ((((p0.toUInt32 >>> ((2 : Int32) &&& 31).toUInt32).toInt32) &&& (255 : Int32)).toUInt32.toUInt16.toUInt32.toInt32)), (0 : Int32), (0 : Int32)] := B49
        have Sf49 := (A47.safe (EL := consts_1) hZ.alike)
        have hC := hC.trans (CHr.wr W49 Sf49 hC.1)
        have N49 := Fr.snoc X49 N0 low_b47
        have K49 := Keep.wr K47 W49 (Or.inr sz_b47)
        show own_End p e below P (T49.setTop (mkF m 104 #[.val (.int p0), .val (.int (p0 &&& (3 : Int32))), .val (.int ((((p0.toUInt32 >>> ((2 : Int32) &&& 31).toUInt32).toInt32) &&& (255 : Int32)).toUInt32.toUInt16.toUInt32.toInt32)), .val (.int ((((p0.toUInt32 >>> ((10 : Int32) &&& 31).toUInt32).toInt32) &&& (255 : Int32)).toUInt32.toUInt16.toUInt32.toInt32)), .val (.int ((((p0.toUInt32 >>> ((18 : Int32) &&& 31).toUInt32).toInt32) &&& (255 : Int32)).toUInt32.toUInt16.toUInt32.toInt32))] [(.ref b47), (.ref b46), (.ref b46)]))
        refine own_st (fun _ => XS.dup X49.here hx rfl (hb hby own_dmk_104) rfl rfl) ?_
        show own_End p e below P (T49.setTop (mkF m 105 #[.val (.int p0), .val (.int (p0 &&& (3 : Int32))), .val (.int ((((p0.toUInt32 >>> ((2 : Int32) &&& 31).toUInt32).toInt32) &&& (255 : Int32)).toUInt32.toUInt16.toUInt32.toInt32)), .val (.int ((((p0.toUInt32 >>> ((10 : Int32) &&& 31).toUInt32).toInt32) &&& (255 : Int32)).toUInt32.toUInt16.toUInt32.toInt32)), .val (.int ((((p0.toUInt32 >>> ((18 : Int32) &&& 31).toUInt32).toInt32) &&& (255 : Int32)).toUInt32.toUInt16.toUInt32.toInt32))] [(.ref b47), (.ref b47), (.ref b46), (.ref b46)]))
        refine own_st (fun _ => XS.iconst X49.here hx rfl (hb hby own_dmk_105)) ?_
        show own_End p e below P (T49.setTop (mkF m 106 #[.val (.int p0), .val (.int (p0 &&& (3 : Int32))), .val (.int ((((p0.toUInt32 >>> ((2 : Int32) &&& 31).toUInt32).toInt32) &&& (255 : Int32)).toUInt32.toUInt16.toUInt32.toInt32)), .val (.int ((((p0.toUInt32 >>> ((10 : Int32) &&& 31).toUInt32).toInt32) &&& (255 : Int32)).toUInt32.toUInt16.toUInt32.toInt32)), .val (.int ((((p0.toUInt32 >>> ((18 : Int32) &&& 31).toUInt32).toInt32) &&& (255 : Int32)).toUInt32.toUInt16.toUInt32.toInt32))] [(.int (1 : Int32)), (.ref b47), (.ref b47), (.ref b46), (.ref b46)]))
        refine own_st (fun _ => XS.iloadN X49.here hx rfl (hb hby own_dmk_106) rfl) ?_
        show own_End p e below P (T49.setTop (mkF m 107 #[.val (.int p0), .val (.int (p0 &&& (3 : Int32))), .val (.int ((((p0.toUInt32 >>> ((2 : Int32) &&& 31).toUInt32).toInt32) &&& (255 : Int32)).toUInt32.toUInt16.toUInt32.toInt32)), .val (.int ((((p0.toUInt32 >>> ((10 : Int32) &&& 31).toUInt32).toInt32) &&& (255 : Int32)).toUInt32.toUInt16.toUInt32.toInt32)), .val (.int ((((p0.toUInt32 >>> ((18 : Int32) &&& 31).toUInt32).toInt32) &&& (255 : Int32)).toUInt32.toUInt16.toUInt32.toInt32))] [(.int ((((p0.toUInt32 >>> ((10 : Int32) &&& 31).toUInt32).toInt32) &&& (255 : Int32)).toUInt32.toUInt16.toUInt32.toInt32)), (.int (1 : Int32)), (.ref b47), (.ref b47), (.ref b46), (.ref b46)]))
        refine own_castore X49 hx hZ e49 A49 (j := (1 : Int32)) (v := ((((p0.toUInt32 >>> ((10 : Int32) &&& 31).toUInt32).toInt32) &&& (255 : Int32)).toUInt32.toUInt16.toUInt32.toInt32)) (i := 1) (by decide) (by show (1 : Nat) < 3; decide) (g := (mkF m 107 #[.val (.int p0), .val (.int (p0 &&& (3 : Int32))), .val (.int ((((p0.toUInt32 >>> ((2 : Int32) &&& 31).toUInt32).toInt32) &&& (255 : Int32)).toUInt32.toUInt16.toUInt32.toInt32)), .val (.int ((((p0.toUInt32 >>> ((10 : Int32) &&& 31).toUInt32).toInt32) &&& (255 : Int32)).toUInt32.toUInt16.toUInt32.toInt32)), .val (.int ((((p0.toUInt32 >>> ((18 : Int32) &&& 31).toUInt32).toInt32) &&& (255 : Int32)).toUInt32.toUInt16.toUInt32.toInt32))] [(.int ((((p0.toUInt32 >>> ((10 : Int32) &&& 31).toUInt32).toInt32) &&& (255 : Int32)).toUInt32.toUInt16.toUInt32.toInt32)), (.int (1 : Int32)), (.ref b47), (.ref b47), (.ref b46), (.ref b46)])) rfl rfl (hb hby own_dmk_107) (fun T50 h50 X50 e50 W50 B50 => ?_)
        have A50 : own_CA Z h50 b47 [(nar .char ((((p0.toUInt32 >>> ((2 : Int32) &&& 31).toUInt32).toInt32) &&& (255 : Int32)).toUInt32.toUInt16.toUInt32.toInt32)), (nar .char ((((p0.toUInt32 >>> ((10 : Int32) &&& 31).toUInt32).toInt32) &&& (255 : Int32)).toUInt32.toUInt16.toUInt32.toInt32)), (0 : Int32)] := B50
        have Sf50 := (A49.safe (EL := consts_1) hZ.alike)
        have hC := hC.trans (CHr.wr W50 Sf50 hC.1)
        have N50 := Fr.snoc X50 N49 low_b47
        have K50 := Keep.wr K49 W50 (Or.inr sz_b47)
        show own_End p e below P (T50.setTop (mkF m 108 #[.val (.int p0), .val (.int (p0 &&& (3 : Int32))), .val (.int ((((p0.toUInt32 >>> ((2 : Int32) &&& 31).toUInt32).toInt32) &&& (255 : Int32)).toUInt32.toUInt16.toUInt32.toInt32)), .val (.int ((((p0.toUInt32 >>> ((10 : Int32) &&& 31).toUInt32).toInt32) &&& (255 : Int32)).toUInt32.toUInt16.toUInt32.toInt32)), .val (.int ((((p0.toUInt32 >>> ((18 : Int32) &&& 31).toUInt32).toInt32) &&& (255 : Int32)).toUInt32.toUInt16.toUInt32.toInt32))] [(.ref b47), (.ref b46), (.ref b46)]))
        refine own_st (fun _ => XS.dup X50.here hx rfl (hb hby own_dmk_108) rfl rfl) ?_
        show own_End p e below P (T50.setTop (mkF m 109 #[.val (.int p0), .val (.int (p0 &&& (3 : Int32))), .val (.int ((((p0.toUInt32 >>> ((2 : Int32) &&& 31).toUInt32).toInt32) &&& (255 : Int32)).toUInt32.toUInt16.toUInt32.toInt32)), .val (.int ((((p0.toUInt32 >>> ((10 : Int32) &&& 31).toUInt32).toInt32) &&& (255 : Int32)).toUInt32.toUInt16.toUInt32.toInt32)), .val (.int ((((p0.toUInt32 >>> ((18 : Int32) &&& 31).toUInt32).toInt32) &&& (255 : Int32)).toUInt32.toUInt16.toUInt32.toInt32))] [(.ref b47), (.ref b47), (.ref b46), (.ref b46)]))
        refine own_st (fun _ => XS.iconst X50.here hx rfl (hb hby own_dmk_109)) ?_
        show own_End p e below P (T50.setTop (mkF m 110 #[.val (.int p0), .val (.int (p0 &&& (3 : Int32))), .val (.int ((((p0.toUInt32 >>> ((2 : Int32) &&& 31).toUInt32).toInt32) &&& (255 : Int32)).toUInt32.toUInt16.toUInt32.toInt32)), .val (.int ((((p0.toUInt32 >>> ((10 : Int32) &&& 31).toUInt32).toInt32) &&& (255 : Int32)).toUInt32.toUInt16.toUInt32.toInt32)), .val (.int ((((p0.toUInt32 >>> ((18 : Int32) &&& 31).toUInt32).toInt32) &&& (255 : Int32)).toUInt32.toUInt16.toUInt32.toInt32))] [(.int (2 : Int32)), (.ref b47), (.ref b47), (.ref b46), (.ref b46)]))
        refine own_st (fun _ => XS.iload X50.here hx rfl (hb hby own_dmk_110) rfl) ?_
        show own_End p e below P (T50.setTop (mkF m 112 #[.val (.int p0), .val (.int (p0 &&& (3 : Int32))), .val (.int ((((p0.toUInt32 >>> ((2 : Int32) &&& 31).toUInt32).toInt32) &&& (255 : Int32)).toUInt32.toUInt16.toUInt32.toInt32)), .val (.int ((((p0.toUInt32 >>> ((10 : Int32) &&& 31).toUInt32).toInt32) &&& (255 : Int32)).toUInt32.toUInt16.toUInt32.toInt32)), .val (.int ((((p0.toUInt32 >>> ((18 : Int32) &&& 31).toUInt32).toInt32) &&& (255 : Int32)).toUInt32.toUInt16.toUInt32.toInt32))] [(.int ((((p0.toUInt32 >>> ((18 : Int32) &&& 31).toUInt32).toInt32) &&& (255 : Int32)).toUInt32.toUInt16.toUInt32.toInt32)), (.int (2 : Int32)), (.ref b47), (.ref b47), (.ref b46), (.ref b46)]))
        refine own_castore X50 hx hZ e50 A50 (j := (2 : Int32)) (v := ((((p0.toUInt32 >>> ((18 : Int32) &&& 31).toUInt32).toInt32) &&& (255 : Int32)).toUInt32.toUInt16.toUInt32.toInt32)) (i := 2) (by decide) (by show (2 : Nat) < 3; decide) (g := (mkF m 112 #[.val (.int p0), .val (.int (p0 &&& (3 : Int32))), .val (.int ((((p0.toUInt32 >>> ((2 : Int32) &&& 31).toUInt32).toInt32) &&& (255 : Int32)).toUInt32.toUInt16.toUInt32.toInt32)), .val (.int ((((p0.toUInt32 >>> ((10 : Int32) &&& 31).toUInt32).toInt32) &&& (255 : Int32)).toUInt32.toUInt16.toUInt32.toInt32)), .val (.int ((((p0.toUInt32 >>> ((18 : Int32) &&& 31).toUInt32).toInt32) &&& (255 : Int32)).toUInt32.toUInt16.toUInt32.toInt32))] [(.int ((((p0.toUInt32 >>> ((18 : Int32) &&& 31).toUInt32).toInt32) &&& (255 : Int32)).toUInt32.toUInt16.toUInt32.toInt32)), (.int (2 : Int32)), (.ref b47), (.ref b47), (.ref b46), (.ref b46)])) rfl rfl (hb hby own_dmk_112) (fun T51 h51 X51 e51 W51 B51 => ?_)
        have A51 : own_CA Z h51 b47 [(nar .char ((((p0.toUInt32 >>> ((2 : Int32) &&& 31).toUInt32).toInt32) &&& (255 : Int32)).toUInt32.toUInt16.toUInt32.toInt32)), (nar .char ((((p0.toUInt32 >>> ((10 : Int32) &&& 31).toUInt32).toInt32) &&& (255 : Int32)).toUInt32.toUInt16.toUInt32.toInt32)), (nar .char ((((p0.toUInt32 >>> ((18 : Int32) &&& 31).toUInt32).toInt32) &&& (255 : Int32)).toUInt32.toUInt16.toUInt32.toInt32))] := B51
        have Sf51 := (A50.safe (EL := consts_1) hZ.alike)
        have hC := hC.trans (CHr.wr W51 Sf51 hC.1)
        have N51 := Fr.snoc X51 N50 low_b47
        have K51 := Keep.wr K50 W51 (Or.inr sz_b47)
        show own_End p e below P (T51.setTop (mkF m 113 #[.val (.int p0), .val (.int (p0 &&& (3 : Int32))), .val (.int ((((p0.toUInt32 >>> ((2 : Int32) &&& 31).toUInt32).toInt32) &&& (255 : Int32)).toUInt32.toUInt16.toUInt32.toInt32)), .val (.int ((((p0.toUInt32 >>> ((10 : Int32) &&& 31).toUInt32).toInt32) &&& (255 : Int32)).toUInt32.toUInt16.toUInt32.toInt32)), .val (.int ((((p0.toUInt32 >>> ((18 : Int32) &&& 31).toUInt32).toInt32) &&& (255 : Int32)).toUInt32.toUInt16.toUInt32.toInt32))] [(.ref b47), (.ref b46), (.ref b46)]))
        have G53 := ((((A46.ext E47).wr W49).wr W50).wr W51)
        have G54 := ((((F_b46_value.ext E47).other W49 (Or.inl ne48)).other W50 (Or.inl ne48)).other W51 (Or.inl ne48))
        have G55 := ((((F_b46_coder.ext E47).other W49 (Or.inl ne48)).other W50 (Or.inl ne48)).other W51 (Or.inl ne48))
        have G56 := ((((F_b46_hash.ext E47).other W49 (Or.inl ne48)).other W50 (Or.inl ne48)).other W51 (Or.inl ne48))
        have G57 := ((((F_b46_hashIsZero.ext E47).other W49 (Or.inl ne48)).other W50 (Or.inl ne48)).other W51 (Or.inl ne48))
        have G58 := (((((S_String_COMPACT_STRINGS.ext E46).ext E47).wr W49).wr W50).wr W51)
        refine own_callI X51 hx hZ (y := (⟨"java/lang/String", "<init>", "([C)V"⟩ : MethodName)) rfl hown (hw _ (List.mem_of_getElem? (i := 8) rfl)) (hw _ (List.mem_of_getElem? (i := 9) rfl)) (hw _ (List.mem_of_getElem? (i := 6) rfl)) (hw _ (List.mem_of_getElem? (i := 10) rfl)) (by decide) (own_mic3 l Z a0 hw [] b46 b47 (nar .char ((((p0.toUInt32 >>> ((2 : Int32) &&& 31).toUInt32).toInt32) &&& (255 : Int32)).toUInt32.toUInt16.toUInt32.toInt32)) (nar .char ((((p0.toUInt32 >>> ((10 : Int32) &&& 31).toUInt32).toInt32) &&& (255 : Int32)).toUInt32.toUInt16.toUInt32.toInt32)) (nar .char ((((p0.toUInt32 >>> ((18 : Int32) &&& 31).toUInt32).toInt32) &&& (255 : Int32)).toUInt32.toUInt16.toUInt32.toInt32)) s_String_COMPACT_STRINGS h51 n0 (Nat.le_trans Z0 K51.1) G53 G54 G55 G56 G57 G58 A51 low_b46 (own_cc _) (own_cc _) (own_cc _) hnz) 1 (by decide) (by decide) e51 (by decide) (by decide) (g := (mkF m 113 #[.val (.int p0), .val (.int (p0 &&& (3 : Int32))), .val (.int ((((p0.toUInt32 >>> ((2 : Int32) &&& 31).toUInt32).toInt32) &&& (255 : Int32)).toUInt32.toUInt16.toUInt32.toInt32)), .val (.int ((((p0.toUInt32 >>> ((10 : Int32) &&& 31).toUInt32).toInt32) &&& (255 : Int32)).toUInt32.toUInt16.toUInt32.toInt32)), .val (.int ((((p0.toUInt32 >>> ((18 : Int32) &&& 31).toUInt32).toInt32) &&& (255 : Int32)).toUInt32.toUInt16.toUInt32.toInt32))] [(.ref b47), (.ref b46), (.ref b46)])) rfl (by rw [hml']; rfl) (a := b46) (argsL := [(.ref b47)]) (rest := [(.ref b46)]) rfl (lenOf own_pd_C_V_325 rfl) rfl (by show 2 * 0 + _ ≤ _; exact Nat.le_of_eq rfl) (hb hby own_dmk_113) (fun r52 T52 L52 X52 hQ52 => ?_)
        obtain ⟨b1_3_1_52, rfl, Nq52, Kq52, szq_b1_3_1_52, low_b1_3_1_52, f0_52, f1_52, f2_52, f3_52, f4_52, f5_52⟩ := hQ52
        have N52 := Fr.app N51 Nq52
        have ne59 : b46 ≠ b1_3_1_52 := Nat.ne_of_lt (Nat.lt_of_lt_of_le G53.lt szq_b1_3_1_52)
        have ne60 : b47 ≠ b1_3_1_52 := Nat.ne_of_lt (Nat.lt_of_lt_of_le A51.lt szq_b1_3_1_52)
        have sz_b1_3_1_52 := Nat.le_trans K51.1 szq_b1_3_1_52
        have hC := hC.trans (CHr.keep Kq52 (sfS (own_safeNull (EL := consts_1) hZ.alike G53 G54) sf0) hC.1)
        have K52 := Keep.trans K51 Kq52 (allS (Or.inr sz_b46) all0)
        show own_End p e below P (T52.setTop (mkF m 116 #[.val (.int p0), .val (.int (p0 &&& (3 : Int32))), .val (.int ((((p0.toUInt32 >>> ((2 : Int32) &&& 31).toUInt32).toInt32) &&& (255 : Int32)).toUInt32.toUInt16.toUInt32.toInt32)), .val (.int ((((p0.toUInt32 >>> ((10 : Int32) &&& 31).toUInt32).toInt32) &&& (255 : Int32)).toUInt32.toUInt16.toUInt32.toInt32)), .val (.int ((((p0.toUInt32 >>> ((18 : Int32) &&& 31).toUInt32).toInt32) &&& (255 : Int32)).toUInt32.toUInt16.toUInt32.toInt32))] [(.ref b46)]))
        have G61 := (Nat.le_trans (Nat.le_trans (Nat.le_trans (Nat.le_trans (Nat.le_trans (Nat.le_trans hk E46.1) E47.1) (Keep.of_wr W49).1) (Keep.of_wr W50).1) (Keep.of_wr W51).1) Kq52.1)
        refine own_retRH X52 hS G61 rfl hZ hEL hC hx hlk hP rfl rfl hrt (hb hby own_dmk_116) (by decide) (by decide) ?_
        have Am62 : own_BA Z T52.heap b1_3_1_52 (own_mkl p0) := (show own_mkl p0 = [(nar .byte ((nar .char ((((p0.toUInt32 >>> ((2 : Int32) &&& 31).toUInt32).toInt32) &&& (255 : Int32)).toUInt32.toUInt16.toUInt32.toInt32)).toInt8.toInt32)), (nar .byte ((nar .char ((((p0.toUInt32 >>> ((10 : Int32) &&& 31).toUInt32).toInt32) &&& (255 : Int32)).toUInt32.toUInt16.toUInt32.toInt32)).toInt8.toInt32)), (nar .byte ((nar .char ((((p0.toUInt32 >>> ((18 : Int32) &&& 31).toUInt32).toInt32) &&& (255 : Int32)).toUInt32.toUInt16.toUInt32.toInt32)).toInt8.toInt32))] from (if_neg hc1).trans ((if_neg hc13).trans ((if_neg hc29).trans (rfl)))) ▸ f5_52
        have hfin : (fun (v : Option Value) (h : Heap) (L : List Loc) => ∃ a b : Addr, v = some (.ref a) ∧ Fr n0 L ∧ Keep h0 h [] ∧ h0.size ≤ a ∧ n0 ≤ a ∧ Exa Z h a "java/lang/String" ∧ Fld Z h a "java/lang/String" "value" "[B" (.ref b) ∧ Fld Z h a "java/lang/String" "coder" "B" (.int 0) ∧ Fld Z h a "java/lang/String" "hash" "I" (.int 0) ∧ Fld Z h a "java/lang/String" "hashIsZero" "Z" (.int 0) ∧ own_BA Z h b (own_mkl p0)) (some (.ref b46)) T52.heap _ := ⟨b46, b1_3_1_52, rfl, N52, K52, sz_b46, low_b46, f0_52, f1_52, f2_52, f3_52, f4_52, Am62⟩
        exact hfin
theorem own_deqn_0 : decode jdk_43_method_13_code 0 = .ok (.aload_n 0, 1) := by decide +kernel
theorem own_deqn_1 : decode jdk_43_method_13_code 1 = .ok (.arraylength, 1) := by decide +kernel
theorem own_deqn_2 : decode jdk_43_method_13_code 2 = .ok (.aload_n 1, 1) := by decide +kernel
theorem own_deqn_3 : decode jdk_43_method_13_code 3 = .ok (.arraylength, 1) := by decide +kernel
theorem own_deqn_4 : decode jdk_43_method_13_code 4 = .ok (.if_icmp .ne 30, 3) := by decide +kernel
theorem own_deqn_34 : decode jdk_43_method_13_code 34 = .ok (.iconst 0, 1) := by decide +kernel
theorem own_deqn_35 : decode jdk_43_method_13_code 35 = .ok (.ireturn, 1) := by decide +kernel
theorem own_efeqn (m : MethodId) (o0 : Addr) (o1 : Addr) : entryFrame m #[(.ref o0), (.ref o1)] 3 = mkF m 0 #[.val (.ref o0), .val (.ref o1), .unset] [] := by first | (simp [entryFrame, mkF, argsToLocals, Value.category]; done) | rfl
theorem own_pn_java_lang_StringLatin1 : plainName "java/lang/StringLatin1" = true := by first | (simp [plainName, overriddenIn]; done) | decide +kernel
set_option maxRecDepth 65536 in
set_option maxHeartbeats 40000000 in
theorem own_meqn (l : Launch) (Z : State) (a0 : Array Value) (hw : ∀ d ∈ tables_1, d.before a0 Z = true) (ws : List Jvm.Cond) (o0 : Addr) (o1 : Addr) (xs : List Int32) (ys : List Int32) (h0 : Heap) (n0 : Nat) (Z0 : n0 ≤ h0.size) (A_o0 : own_BA Z h0 o0 xs) (A_o1 : own_BA Z h0 o1 ys) (hd : ¬ ((Int32.ofNat xs.length) = (Int32.ofNat ys.length))) :
    own_Met l Z (⟨"java/lang/StringLatin1", "equals", "([B[B)Z"⟩ : MethodName) jdk_43_method_13_code 3 (some .boolean) ws ({ frames := 0, cells := 0, slots := 0, locals := 0 } : Room) #[(.ref o0), (.ref o1)] h0 (fun (v : Option Value) (h : Heap) (L : List Loc) => v = some (.int (0 : Int32)) ∧ Fr n0 L ∧ h = h0) := by
  refine own_enter (plainFor_of_name own_pn_java_lang_StringLatin1) ?_
  intro p e s m below meth c s₁ P hx hby hml hrt hlk hown hnm hZ X0 e0 hP
  have N0 := Fr.nil n0
  have K0 := Keep.refl h0 []
  have hml' : c.maxLocals = 3 := hml
  refine own_cast (own_efeqn m o0 o1) ?_
  show own_End p e below P (s₁.setTop (mkF m 0 #[.val (.ref o0), .val (.ref o1), .unset] []))
  refine own_st (fun _ => XS.aloadN X0.here hx rfl (hb hby own_deqn_0) rfl rfl) ?_
  show own_End p e below P (s₁.setTop (mkF m 1 #[.val (.ref o0), .val (.ref o1), .unset] [(.ref o0)]))
  refine own_alenB X0 hx hZ e0 A_o0 (g := (mkF m 1 #[.val (.ref o0), .val (.ref o1), .unset] [(.ref o0)])) rfl rfl (hb hby own_deqn_1) ?_
  show own_End p e below P (s₁.setTop (mkF m 2 #[.val (.ref o0), .val (.ref o1), .unset] [(.int (Int32.ofNat xs.length))]))
  refine own_st (fun _ => XS.aloadN X0.here hx rfl (hb hby own_deqn_2) rfl rfl) ?_
  show own_End p e below P (s₁.setTop (mkF m 3 #[.val (.ref o0), .val (.ref o1), .unset] [(.ref o1), (.int (Int32.ofNat xs.length))]))
  refine own_alenB X0 hx hZ e0 A_o1 (g := (mkF m 3 #[.val (.ref o0), .val (.ref o1), .unset] [(.ref o1), (.int (Int32.ofNat xs.length))])) rfl rfl (hb hby own_deqn_3) ?_
  show own_End p e below P (s₁.setTop (mkF m 4 #[.val (.ref o0), .val (.ref o1), .unset] [(.int (Int32.ofNat ys.length)), (.int (Int32.ofNat xs.length))]))
  refine own_st (fun _ => XS.icmpYes X0.here hx rfl (pc0 := 4) (pc' := 34) rfl (hb hby own_deqn_4) rfl (feq hd).2 (by decide) (by decide)) ?_
  show own_End p e below P (s₁.setTop (mkF m 34 #[.val (.ref o0), .val (.ref o1), .unset] []))
  refine own_st (fun _ => XS.iconst X0.here hx rfl (hb hby own_deqn_34)) ?_
  show own_End p e below P (s₁.setTop (mkF m 35 #[.val (.ref o0), .val (.ref o1), .unset] [(.int (0 : Int32))]))
  exact own_retN X0 hx hlk hP (t := .boolean) (by simp) hrt (hb hby own_deqn_35) (by decide) (by decide) ⟨rfl, N0, e0⟩
theorem own_deq0_0 : decode jdk_43_method_13_code 0 = .ok (.aload_n 0, 1) := by decide +kernel
theorem own_deq0_1 : decode jdk_43_method_13_code 1 = .ok (.arraylength, 1) := by decide +kernel
theorem own_deq0_2 : decode jdk_43_method_13_code 2 = .ok (.aload_n 1, 1) := by decide +kernel
theorem own_deq0_3 : decode jdk_43_method_13_code 3 = .ok (.arraylength, 1) := by decide +kernel
theorem own_deq0_4 : decode jdk_43_method_13_code 4 = .ok (.if_icmp .ne 30, 3) := by decide +kernel
theorem own_deq0_7 : decode jdk_43_method_13_code 7 = .ok (.iconst 0, 1) := by decide +kernel
theorem own_deq0_8 : decode jdk_43_method_13_code 8 = .ok (.istore_n 2, 1) := by decide +kernel
theorem own_deq0_9 : decode jdk_43_method_13_code 9 = .ok (.iload_n 2, 1) := by decide +kernel
theorem own_deq0_10 : decode jdk_43_method_13_code 10 = .ok (.aload_n 0, 1) := by decide +kernel
theorem own_deq0_11 : decode jdk_43_method_13_code 11 = .ok (.arraylength, 1) := by decide +kernel
theorem own_deq0_12 : decode jdk_43_method_13_code 12 = .ok (.if_icmp .ge 20, 3) := by decide +kernel
theorem own_deq0_32 : decode jdk_43_method_13_code 32 = .ok (.iconst 1, 1) := by decide +kernel
theorem own_deq0_33 : decode jdk_43_method_13_code 33 = .ok (.ireturn, 1) := by decide +kernel
theorem own_efeq0 (m : MethodId) (o0 : Addr) (o1 : Addr) : entryFrame m #[(.ref o0), (.ref o1)] 3 = mkF m 0 #[.val (.ref o0), .val (.ref o1), .unset] [] := by first | (simp [entryFrame, mkF, argsToLocals, Value.category]; done) | rfl
def own_feq0  : Int32 := (1 : Int32)
set_option maxRecDepth 65536 in
set_option maxHeartbeats 40000000 in
theorem own_meq0 (l : Launch) (Z : State) (a0 : Array Value) (hw : ∀ d ∈ tables_1, d.before a0 Z = true) (ws : List Jvm.Cond) (o0 : Addr) (o1 : Addr)  (h0 : Heap) (n0 : Nat) (Z0 : n0 ≤ h0.size) (A_o0 : own_BA Z h0 o0 []) (A_o1 : own_BA Z h0 o1 []) :
    own_Met l Z (⟨"java/lang/StringLatin1", "equals", "([B[B)Z"⟩ : MethodName) jdk_43_method_13_code 3 (some .boolean) ws ({ frames := 0, cells := 0, slots := 0, locals := 0 } : Room) #[(.ref o0), (.ref o1)] h0 (fun (v : Option Value) (h : Heap) (L : List Loc) => v = some (.int (own_feq0 )) ∧ Fr n0 L ∧ h = h0) := by
  refine own_enter (plainFor_of_name own_pn_java_lang_StringLatin1) ?_
  intro p e s m below meth c s₁ P hx hby hml hrt hlk hown hnm hZ X0 e0 hP
  have N0 := Fr.nil n0
  have K0 := Keep.refl h0 []
  have hml' : c.maxLocals = 3 := hml
  refine own_cast (own_efeq0 m o0 o1) ?_
  show own_End p e below P (s₁.setTop (mkF m 0 #[.val (.ref o0), .val (.ref o1), .unset] []))
  refine own_st (fun _ => XS.aloadN X0.here hx rfl (hb hby own_deq0_0) rfl rfl) ?_
  show own_End p e below P (s₁.setTop (mkF m 1 #[.val (.ref o0), .val (.ref o1), .unset] [(.ref o0)]))
  refine own_alenB X0 hx hZ e0 A_o0 (g := (mkF m 1 #[.val (.ref o0), .val (.ref o1), .unset] [(.ref o0)])) rfl rfl (hb hby own_deq0_1) ?_
  show own_End p e below P (s₁.setTop (mkF m 2 #[.val (.ref o0), .val (.ref o1), .unset] [(.int (0 : Int32))]))
  refine own_st (fun _ => XS.aloadN X0.here hx rfl (hb hby own_deq0_2) rfl rfl) ?_
  show own_End p e below P (s₁.setTop (mkF m 3 #[.val (.ref o0), .val (.ref o1), .unset] [(.ref o1), (.int (0 : Int32))]))
  refine own_alenB X0 hx hZ e0 A_o1 (g := (mkF m 3 #[.val (.ref o0), .val (.ref o1), .unset] [(.ref o1), (.int (0 : Int32))])) rfl rfl (hb hby own_deq0_3) ?_
  show own_End p e below P (s₁.setTop (mkF m 4 #[.val (.ref o0), .val (.ref o1), .unset] [(.int (0 : Int32)), (.int (0 : Int32))]))
  refine own_st (fun _ => XS.icmpNo X0.here hx rfl (hb hby own_deq0_4) rfl (teq (by decide : (0 : Int32) = (0 : Int32))).2) ?_
  show own_End p e below P (s₁.setTop (mkF m 7 #[.val (.ref o0), .val (.ref o1), .unset] []))
  refine own_st (fun _ => XS.iconst X0.here hx rfl (hb hby own_deq0_7)) ?_
  show own_End p e below P (s₁.setTop (mkF m 8 #[.val (.ref o0), .val (.ref o1), .unset] [(.int (0 : Int32))]))
  refine own_st (fun _ => XS.istoreN X0.here hx rfl (hb hby own_deq0_8) rfl (l' := #[.val (.ref o0), .val (.ref o1), .val (.int (0 : Int32))]) rfl) ?_
  show own_End p e below P (s₁.setTop (mkF m 9 #[.val (.ref o0), .val (.ref o1), .val (.int (0 : Int32))] []))
  refine own_st (fun _ => XS.iloadN X0.here hx rfl (hb hby own_deq0_9) rfl) ?_
  show own_End p e below P (s₁.setTop (mkF m 10 #[.val (.ref o0), .val (.ref o1), .val (.int (0 : Int32))] [(.int (0 : Int32))]))
  refine own_st (fun _ => XS.aloadN X0.here hx rfl (hb hby own_deq0_10) rfl rfl) ?_
  show own_End p e below P (s₁.setTop (mkF m 11 #[.val (.ref o0), .val (.ref o1), .val (.int (0 : Int32))] [(.ref o0), (.int (0 : Int32))]))
  refine own_alenB X0 hx hZ e0 A_o0 (g := (mkF m 11 #[.val (.ref o0), .val (.ref o1), .val (.int (0 : Int32))] [(.ref o0), (.int (0 : Int32))])) rfl rfl (hb hby own_deq0_11) ?_
  show own_End p e below P (s₁.setTop (mkF m 12 #[.val (.ref o0), .val (.ref o1), .val (.int (0 : Int32))] [(.int (0 : Int32)), (.int (0 : Int32))]))
  refine own_st (fun _ => XS.icmpYes X0.here hx rfl (pc0 := 12) (pc' := 32) rfl (hb hby own_deq0_12) rfl (flt (by decide : ¬ ((0 : Int32) < (0 : Int32)))).2.1 (by decide) (by decide)) ?_
  show own_End p e below P (s₁.setTop (mkF m 32 #[.val (.ref o0), .val (.ref o1), .val (.int (0 : Int32))] []))
  refine own_st (fun _ => XS.iconst X0.here hx rfl (hb hby own_deq0_32)) ?_
  show own_End p e below P (s₁.setTop (mkF m 33 #[.val (.ref o0), .val (.ref o1), .val (.int (0 : Int32))] [(.int (1 : Int32))]))
  refine own_retN X0 hx hlk hP (t := .boolean) (by simp) hrt (hb hby own_deq0_33) (by decide) (by decide) ⟨congrArg (fun z => some (Value.int z)) ?_, N0, e0⟩
  exact (show own_feq0  = (1 : Int32) from rfl).symm
theorem own_deq1_0 : decode jdk_43_method_13_code 0 = .ok (.aload_n 0, 1) := by decide +kernel
theorem own_deq1_1 : decode jdk_43_method_13_code 1 = .ok (.arraylength, 1) := by decide +kernel
theorem own_deq1_2 : decode jdk_43_method_13_code 2 = .ok (.aload_n 1, 1) := by decide +kernel
theorem own_deq1_3 : decode jdk_43_method_13_code 3 = .ok (.arraylength, 1) := by decide +kernel
theorem own_deq1_4 : decode jdk_43_method_13_code 4 = .ok (.if_icmp .ne 30, 3) := by decide +kernel
theorem own_deq1_7 : decode jdk_43_method_13_code 7 = .ok (.iconst 0, 1) := by decide +kernel
theorem own_deq1_8 : decode jdk_43_method_13_code 8 = .ok (.istore_n 2, 1) := by decide +kernel
theorem own_deq1_9 : decode jdk_43_method_13_code 9 = .ok (.iload_n 2, 1) := by decide +kernel
theorem own_deq1_10 : decode jdk_43_method_13_code 10 = .ok (.aload_n 0, 1) := by decide +kernel
theorem own_deq1_11 : decode jdk_43_method_13_code 11 = .ok (.arraylength, 1) := by decide +kernel
theorem own_deq1_12 : decode jdk_43_method_13_code 12 = .ok (.if_icmp .ge 20, 3) := by decide +kernel
theorem own_deq1_15 : decode jdk_43_method_13_code 15 = .ok (.aload_n 0, 1) := by decide +kernel
theorem own_deq1_16 : decode jdk_43_method_13_code 16 = .ok (.iload_n 2, 1) := by decide +kernel
theorem own_deq1_17 : decode jdk_43_method_13_code 17 = .ok (.baload, 1) := by decide +kernel
theorem own_deq1_18 : decode jdk_43_method_13_code 18 = .ok (.aload_n 1, 1) := by decide +kernel
theorem own_deq1_19 : decode jdk_43_method_13_code 19 = .ok (.iload_n 2, 1) := by decide +kernel
theorem own_deq1_20 : decode jdk_43_method_13_code 20 = .ok (.baload, 1) := by decide +kernel
theorem own_deq1_21 : decode jdk_43_method_13_code 21 = .ok (.if_icmp .eq 5, 3) := by decide +kernel
theorem own_deq1_26 : decode jdk_43_method_13_code 26 = .ok (.iinc 2 1, 3) := by decide +kernel
theorem own_deq1_29 : decode jdk_43_method_13_code 29 = .ok (.goto (-20), 3) := by decide +kernel
theorem own_deq1_32 : decode jdk_43_method_13_code 32 = .ok (.iconst 1, 1) := by decide +kernel
theorem own_deq1_33 : decode jdk_43_method_13_code 33 = .ok (.ireturn, 1) := by decide +kernel
theorem own_deq1_24 : decode jdk_43_method_13_code 24 = .ok (.iconst 0, 1) := by decide +kernel
theorem own_deq1_25 : decode jdk_43_method_13_code 25 = .ok (.ireturn, 1) := by decide +kernel
theorem own_efeq1 (m : MethodId) (o0 : Addr) (o1 : Addr) : entryFrame m #[(.ref o0), (.ref o1)] 3 = mkF m 0 #[.val (.ref o0), .val (.ref o1), .unset] [] := by first | (simp [entryFrame, mkF, argsToLocals, Value.category]; done) | rfl
def own_feq1 (c0 : Int32) (d0 : Int32) : Int32 := (if c0 = d0 then (1 : Int32) else (0 : Int32))
set_option maxRecDepth 65536 in
set_option maxHeartbeats 40000000 in
theorem own_meq1 (l : Launch) (Z : State) (a0 : Array Value) (hw : ∀ d ∈ tables_1, d.before a0 Z = true) (ws : List Jvm.Cond) (o0 : Addr) (o1 : Addr) (c0 : Int32) (d0 : Int32) (h0 : Heap) (n0 : Nat) (Z0 : n0 ≤ h0.size) (A_o0 : own_BA Z h0 o0 [c0]) (A_o1 : own_BA Z h0 o1 [d0]) :
    own_Met l Z (⟨"java/lang/StringLatin1", "equals", "([B[B)Z"⟩ : MethodName) jdk_43_method_13_code 3 (some .boolean) ws ({ frames := 0, cells := 0, slots := 0, locals := 0 } : Room) #[(.ref o0), (.ref o1)] h0 (fun (v : Option Value) (h : Heap) (L : List Loc) => v = some (.int (own_feq1 c0 d0)) ∧ Fr n0 L ∧ h = h0) := by
  refine own_enter (plainFor_of_name own_pn_java_lang_StringLatin1) ?_
  intro p e s m below meth c s₁ P hx hby hml hrt hlk hown hnm hZ X0 e0 hP
  have N0 := Fr.nil n0
  have K0 := Keep.refl h0 []
  have hml' : c.maxLocals = 3 := hml
  refine own_cast (own_efeq1 m o0 o1) ?_
  show own_End p e below P (s₁.setTop (mkF m 0 #[.val (.ref o0), .val (.ref o1), .unset] []))
  refine own_st (fun _ => XS.aloadN X0.here hx rfl (hb hby own_deq1_0) rfl rfl) ?_
  show own_End p e below P (s₁.setTop (mkF m 1 #[.val (.ref o0), .val (.ref o1), .unset] [(.ref o0)]))
  refine own_alenB X0 hx hZ e0 A_o0 (g := (mkF m 1 #[.val (.ref o0), .val (.ref o1), .unset] [(.ref o0)])) rfl rfl (hb hby own_deq1_1) ?_
  show own_End p e below P (s₁.setTop (mkF m 2 #[.val (.ref o0), .val (.ref o1), .unset] [(.int (1 : Int32))]))
  refine own_st (fun _ => XS.aloadN X0.here hx rfl (hb hby own_deq1_2) rfl rfl) ?_
  show own_End p e below P (s₁.setTop (mkF m 3 #[.val (.ref o0), .val (.ref o1), .unset] [(.ref o1), (.int (1 : Int32))]))
  refine own_alenB X0 hx hZ e0 A_o1 (g := (mkF m 3 #[.val (.ref o0), .val (.ref o1), .unset] [(.ref o1), (.int (1 : Int32))])) rfl rfl (hb hby own_deq1_3) ?_
  show own_End p e below P (s₁.setTop (mkF m 4 #[.val (.ref o0), .val (.ref o1), .unset] [(.int (1 : Int32)), (.int (1 : Int32))]))
  refine own_st (fun _ => XS.icmpNo X0.here hx rfl (hb hby own_deq1_4) rfl (teq (by decide : (1 : Int32) = (1 : Int32))).2) ?_
  show own_End p e below P (s₁.setTop (mkF m 7 #[.val (.ref o0), .val (.ref o1), .unset] []))
  refine own_st (fun _ => XS.iconst X0.here hx rfl (hb hby own_deq1_7)) ?_
  show own_End p e below P (s₁.setTop (mkF m 8 #[.val (.ref o0), .val (.ref o1), .unset] [(.int (0 : Int32))]))
  refine own_st (fun _ => XS.istoreN X0.here hx rfl (hb hby own_deq1_8) rfl (l' := #[.val (.ref o0), .val (.ref o1), .val (.int (0 : Int32))]) rfl) ?_
  show own_End p e below P (s₁.setTop (mkF m 9 #[.val (.ref o0), .val (.ref o1), .val (.int (0 : Int32))] []))
  refine own_st (fun _ => XS.iloadN X0.here hx rfl (hb hby own_deq1_9) rfl) ?_
  show own_End p e below P (s₁.setTop (mkF m 10 #[.val (.ref o0), .val (.ref o1), .val (.int (0 : Int32))] [(.int (0 : Int32))]))
  refine own_st (fun _ => XS.aloadN X0.here hx rfl (hb hby own_deq1_10) rfl rfl) ?_
  show own_End p e below P (s₁.setTop (mkF m 11 #[.val (.ref o0), .val (.ref o1), .val (.int (0 : Int32))] [(.ref o0), (.int (0 : Int32))]))
  refine own_alenB X0 hx hZ e0 A_o0 (g := (mkF m 11 #[.val (.ref o0), .val (.ref o1), .val (.int (0 : Int32))] [(.ref o0), (.int (0 : Int32))])) rfl rfl (hb hby own_deq1_11) ?_
  show own_End p e below P (s₁.setTop (mkF m 12 #[.val (.ref o0), .val (.ref o1), .val (.int (0 : Int32))] [(.int (1 : Int32)), (.int (0 : Int32))]))
  refine own_st (fun _ => XS.icmpNo X0.here hx rfl (hb hby own_deq1_12) rfl (tlt (by decide : (0 : Int32) < (1 : Int32))).2.1) ?_
  show own_End p e below P (s₁.setTop (mkF m 15 #[.val (.ref o0), .val (.ref o1), .val (.int (0 : Int32))] []))
  refine own_st (fun _ => XS.aloadN X0.here hx rfl (hb hby own_deq1_15) rfl rfl) ?_
  show own_End p e below P (s₁.setTop (mkF m 16 #[.val (.ref o0), .val (.ref o1), .val (.int (0 : Int32))] [(.ref o0)]))
  refine own_st (fun _ => XS.iloadN X0.here hx rfl (hb hby own_deq1_16) rfl) ?_
  show own_End p e below P (s₁.setTop (mkF m 17 #[.val (.ref o0), .val (.ref o1), .val (.int (0 : Int32))] [(.int (0 : Int32)), (.ref o0)]))
  refine own_baload X0 hx hZ e0 A_o0 (j := (0 : Int32)) (v := c0) (i := 0) (by decide) rfl (g := (mkF m 17 #[.val (.ref o0), .val (.ref o1), .val (.int (0 : Int32))] [(.int (0 : Int32)), (.ref o0)])) rfl rfl (hb hby own_deq1_17) ?_
  show own_End p e below P (s₁.setTop (mkF m 18 #[.val (.ref o0), .val (.ref o1), .val (.int (0 : Int32))] [(.int c0)]))
  refine own_st (fun _ => XS.aloadN X0.here hx rfl (hb hby own_deq1_18) rfl rfl) ?_
  show own_End p e below P (s₁.setTop (mkF m 19 #[.val (.ref o0), .val (.ref o1), .val (.int (0 : Int32))] [(.ref o1), (.int c0)]))
  refine own_st (fun _ => XS.iloadN X0.here hx rfl (hb hby own_deq1_19) rfl) ?_
  show own_End p e below P (s₁.setTop (mkF m 20 #[.val (.ref o0), .val (.ref o1), .val (.int (0 : Int32))] [(.int (0 : Int32)), (.ref o1), (.int c0)]))
  refine own_baload X0 hx hZ e0 A_o1 (j := (0 : Int32)) (v := d0) (i := 0) (by decide) rfl (g := (mkF m 20 #[.val (.ref o0), .val (.ref o1), .val (.int (0 : Int32))] [(.int (0 : Int32)), (.ref o1), (.int c0)])) rfl rfl (hb hby own_deq1_20) ?_
  show own_End p e below P (s₁.setTop (mkF m 21 #[.val (.ref o0), .val (.ref o1), .val (.int (0 : Int32))] [(.int d0), (.int c0)]))
  by_cases hc1 : c0 = d0
  · refine own_st (fun _ => XS.icmpYes X0.here hx rfl (pc0 := 21) (pc' := 26) rfl (hb hby own_deq1_21) rfl (teq hc1).1 (by decide) (by decide)) ?_
    show own_End p e below P (s₁.setTop (mkF m 26 #[.val (.ref o0), .val (.ref o1), .val (.int (0 : Int32))] []))
    refine own_st (fun _ => XS.iinc X0.here hx rfl (hb hby own_deq1_26) rfl (l' := #[.val (.ref o0), .val (.ref o1), .val (.int (1 : Int32))]) rfl) ?_
    show own_End p e below P (s₁.setTop (mkF m 29 #[.val (.ref o0), .val (.ref o1), .val (.int (1 : Int32))] []))
    refine own_st (fun _ => XS.goto X0.here hx rfl (pc0 := 29) (pc' := 9) rfl (hb hby own_deq1_29) (by decide) (by decide)) ?_
    show own_End p e below P (s₁.setTop (mkF m 9 #[.val (.ref o0), .val (.ref o1), .val (.int (1 : Int32))] []))
    refine own_st (fun _ => XS.iloadN X0.here hx rfl (hb hby own_deq1_9) rfl) ?_
    show own_End p e below P (s₁.setTop (mkF m 10 #[.val (.ref o0), .val (.ref o1), .val (.int (1 : Int32))] [(.int (1 : Int32))]))
    refine own_st (fun _ => XS.aloadN X0.here hx rfl (hb hby own_deq1_10) rfl rfl) ?_
    show own_End p e below P (s₁.setTop (mkF m 11 #[.val (.ref o0), .val (.ref o1), .val (.int (1 : Int32))] [(.ref o0), (.int (1 : Int32))]))
    refine own_alenB X0 hx hZ e0 A_o0 (g := (mkF m 11 #[.val (.ref o0), .val (.ref o1), .val (.int (1 : Int32))] [(.ref o0), (.int (1 : Int32))])) rfl rfl (hb hby own_deq1_11) ?_
    show own_End p e below P (s₁.setTop (mkF m 12 #[.val (.ref o0), .val (.ref o1), .val (.int (1 : Int32))] [(.int (1 : Int32)), (.int (1 : Int32))]))
    refine own_st (fun _ => XS.icmpYes X0.here hx rfl (pc0 := 12) (pc' := 32) rfl (hb hby own_deq1_12) rfl (flt (by decide : ¬ ((1 : Int32) < (1 : Int32)))).2.1 (by decide) (by decide)) ?_
    show own_End p e below P (s₁.setTop (mkF m 32 #[.val (.ref o0), .val (.ref o1), .val (.int (1 : Int32))] []))
    refine own_st (fun _ => XS.iconst X0.here hx rfl (hb hby own_deq1_32)) ?_
    show own_End p e below P (s₁.setTop (mkF m 33 #[.val (.ref o0), .val (.ref o1), .val (.int (1 : Int32))] [(.int (1 : Int32))]))
    refine own_retN X0 hx hlk hP (t := .boolean) (by simp) hrt (hb hby own_deq1_33) (by decide) (by decide) ⟨congrArg (fun z => some (Value.int z)) ?_, N0, e0⟩
    exact (show own_feq1 c0 d0 = (1 : Int32) from (if_pos hc1).trans (rfl)).symm
  · refine own_st (fun _ => XS.icmpNo X0.here hx rfl (hb hby own_deq1_21) rfl (feq hc1).1) ?_
    show own_End p e below P (s₁.setTop (mkF m 24 #[.val (.ref o0), .val (.ref o1), .val (.int (0 : Int32))] []))
    refine own_st (fun _ => XS.iconst X0.here hx rfl (hb hby own_deq1_24)) ?_
    show own_End p e below P (s₁.setTop (mkF m 25 #[.val (.ref o0), .val (.ref o1), .val (.int (0 : Int32))] [(.int (0 : Int32))]))
    refine own_retN X0 hx hlk hP (t := .boolean) (by simp) hrt (hb hby own_deq1_25) (by decide) (by decide) ⟨congrArg (fun z => some (Value.int z)) ?_, N0, e0⟩
    exact (show own_feq1 c0 d0 = (0 : Int32) from (if_neg hc1).trans (rfl)).symm
theorem own_deq2_0 : decode jdk_43_method_13_code 0 = .ok (.aload_n 0, 1) := by decide +kernel
theorem own_deq2_1 : decode jdk_43_method_13_code 1 = .ok (.arraylength, 1) := by decide +kernel
theorem own_deq2_2 : decode jdk_43_method_13_code 2 = .ok (.aload_n 1, 1) := by decide +kernel
theorem own_deq2_3 : decode jdk_43_method_13_code 3 = .ok (.arraylength, 1) := by decide +kernel
theorem own_deq2_4 : decode jdk_43_method_13_code 4 = .ok (.if_icmp .ne 30, 3) := by decide +kernel
theorem own_deq2_7 : decode jdk_43_method_13_code 7 = .ok (.iconst 0, 1) := by decide +kernel
theorem own_deq2_8 : decode jdk_43_method_13_code 8 = .ok (.istore_n 2, 1) := by decide +kernel
theorem own_deq2_9 : decode jdk_43_method_13_code 9 = .ok (.iload_n 2, 1) := by decide +kernel
theorem own_deq2_10 : decode jdk_43_method_13_code 10 = .ok (.aload_n 0, 1) := by decide +kernel
theorem own_deq2_11 : decode jdk_43_method_13_code 11 = .ok (.arraylength, 1) := by decide +kernel
theorem own_deq2_12 : decode jdk_43_method_13_code 12 = .ok (.if_icmp .ge 20, 3) := by decide +kernel
theorem own_deq2_15 : decode jdk_43_method_13_code 15 = .ok (.aload_n 0, 1) := by decide +kernel
theorem own_deq2_16 : decode jdk_43_method_13_code 16 = .ok (.iload_n 2, 1) := by decide +kernel
theorem own_deq2_17 : decode jdk_43_method_13_code 17 = .ok (.baload, 1) := by decide +kernel
theorem own_deq2_18 : decode jdk_43_method_13_code 18 = .ok (.aload_n 1, 1) := by decide +kernel
theorem own_deq2_19 : decode jdk_43_method_13_code 19 = .ok (.iload_n 2, 1) := by decide +kernel
theorem own_deq2_20 : decode jdk_43_method_13_code 20 = .ok (.baload, 1) := by decide +kernel
theorem own_deq2_21 : decode jdk_43_method_13_code 21 = .ok (.if_icmp .eq 5, 3) := by decide +kernel
theorem own_deq2_26 : decode jdk_43_method_13_code 26 = .ok (.iinc 2 1, 3) := by decide +kernel
theorem own_deq2_29 : decode jdk_43_method_13_code 29 = .ok (.goto (-20), 3) := by decide +kernel
theorem own_deq2_32 : decode jdk_43_method_13_code 32 = .ok (.iconst 1, 1) := by decide +kernel
theorem own_deq2_33 : decode jdk_43_method_13_code 33 = .ok (.ireturn, 1) := by decide +kernel
theorem own_deq2_24 : decode jdk_43_method_13_code 24 = .ok (.iconst 0, 1) := by decide +kernel
theorem own_deq2_25 : decode jdk_43_method_13_code 25 = .ok (.ireturn, 1) := by decide +kernel
theorem own_efeq2 (m : MethodId) (o0 : Addr) (o1 : Addr) : entryFrame m #[(.ref o0), (.ref o1)] 3 = mkF m 0 #[.val (.ref o0), .val (.ref o1), .unset] [] := by first | (simp [entryFrame, mkF, argsToLocals, Value.category]; done) | rfl
def own_feq2 (c0 : Int32) (c1 : Int32) (d0 : Int32) (d1 : Int32) : Int32 := (if c0 = d0 then (if c1 = d1 then (1 : Int32) else (0 : Int32)) else (0 : Int32))
set_option maxRecDepth 65536 in
set_option maxHeartbeats 40000000 in
theorem own_meq2 (l : Launch) (Z : State) (a0 : Array Value) (hw : ∀ d ∈ tables_1, d.before a0 Z = true) (ws : List Jvm.Cond) (o0 : Addr) (o1 : Addr) (c0 : Int32) (c1 : Int32) (d0 : Int32) (d1 : Int32) (h0 : Heap) (n0 : Nat) (Z0 : n0 ≤ h0.size) (A_o0 : own_BA Z h0 o0 [c0, c1]) (A_o1 : own_BA Z h0 o1 [d0, d1]) :
    own_Met l Z (⟨"java/lang/StringLatin1", "equals", "([B[B)Z"⟩ : MethodName) jdk_43_method_13_code 3 (some .boolean) ws ({ frames := 0, cells := 0, slots := 0, locals := 0 } : Room) #[(.ref o0), (.ref o1)] h0 (fun (v : Option Value) (h : Heap) (L : List Loc) => v = some (.int (own_feq2 c0 c1 d0 d1)) ∧ Fr n0 L ∧ h = h0) := by
  refine own_enter (plainFor_of_name own_pn_java_lang_StringLatin1) ?_
  intro p e s m below meth c s₁ P hx hby hml hrt hlk hown hnm hZ X0 e0 hP
  have N0 := Fr.nil n0
  have K0 := Keep.refl h0 []
  have hml' : c.maxLocals = 3 := hml
  refine own_cast (own_efeq2 m o0 o1) ?_
  show own_End p e below P (s₁.setTop (mkF m 0 #[.val (.ref o0), .val (.ref o1), .unset] []))
  refine own_st (fun _ => XS.aloadN X0.here hx rfl (hb hby own_deq2_0) rfl rfl) ?_
  show own_End p e below P (s₁.setTop (mkF m 1 #[.val (.ref o0), .val (.ref o1), .unset] [(.ref o0)]))
  refine own_alenB X0 hx hZ e0 A_o0 (g := (mkF m 1 #[.val (.ref o0), .val (.ref o1), .unset] [(.ref o0)])) rfl rfl (hb hby own_deq2_1) ?_
  show own_End p e below P (s₁.setTop (mkF m 2 #[.val (.ref o0), .val (.ref o1), .unset] [(.int (2 : Int32))]))
  refine own_st (fun _ => XS.aloadN X0.here hx rfl (hb hby own_deq2_2) rfl rfl) ?_
  show own_End p e below P (s₁.setTop (mkF m 3 #[.val (.ref o0), .val (.ref o1), .unset] [(.ref o1), (.int (2 : Int32))]))
  refine own_alenB X0 hx hZ e0 A_o1 (g := (mkF m 3 #[.val (.ref o0), .val (.ref o1), .unset] [(.ref o1), (.int (2 : Int32))])) rfl rfl (hb hby own_deq2_3) ?_
  show own_End p e below P (s₁.setTop (mkF m 4 #[.val (.ref o0), .val (.ref o1), .unset] [(.int (2 : Int32)), (.int (2 : Int32))]))
  refine own_st (fun _ => XS.icmpNo X0.here hx rfl (hb hby own_deq2_4) rfl (teq (by decide : (2 : Int32) = (2 : Int32))).2) ?_
  show own_End p e below P (s₁.setTop (mkF m 7 #[.val (.ref o0), .val (.ref o1), .unset] []))
  refine own_st (fun _ => XS.iconst X0.here hx rfl (hb hby own_deq2_7)) ?_
  show own_End p e below P (s₁.setTop (mkF m 8 #[.val (.ref o0), .val (.ref o1), .unset] [(.int (0 : Int32))]))
  refine own_st (fun _ => XS.istoreN X0.here hx rfl (hb hby own_deq2_8) rfl (l' := #[.val (.ref o0), .val (.ref o1), .val (.int (0 : Int32))]) rfl) ?_
  show own_End p e below P (s₁.setTop (mkF m 9 #[.val (.ref o0), .val (.ref o1), .val (.int (0 : Int32))] []))
  refine own_st (fun _ => XS.iloadN X0.here hx rfl (hb hby own_deq2_9) rfl) ?_
  show own_End p e below P (s₁.setTop (mkF m 10 #[.val (.ref o0), .val (.ref o1), .val (.int (0 : Int32))] [(.int (0 : Int32))]))
  refine own_st (fun _ => XS.aloadN X0.here hx rfl (hb hby own_deq2_10) rfl rfl) ?_
  show own_End p e below P (s₁.setTop (mkF m 11 #[.val (.ref o0), .val (.ref o1), .val (.int (0 : Int32))] [(.ref o0), (.int (0 : Int32))]))
  refine own_alenB X0 hx hZ e0 A_o0 (g := (mkF m 11 #[.val (.ref o0), .val (.ref o1), .val (.int (0 : Int32))] [(.ref o0), (.int (0 : Int32))])) rfl rfl (hb hby own_deq2_11) ?_
  show own_End p e below P (s₁.setTop (mkF m 12 #[.val (.ref o0), .val (.ref o1), .val (.int (0 : Int32))] [(.int (2 : Int32)), (.int (0 : Int32))]))
  refine own_st (fun _ => XS.icmpNo X0.here hx rfl (hb hby own_deq2_12) rfl (tlt (by decide : (0 : Int32) < (2 : Int32))).2.1) ?_
  show own_End p e below P (s₁.setTop (mkF m 15 #[.val (.ref o0), .val (.ref o1), .val (.int (0 : Int32))] []))
  refine own_st (fun _ => XS.aloadN X0.here hx rfl (hb hby own_deq2_15) rfl rfl) ?_
  show own_End p e below P (s₁.setTop (mkF m 16 #[.val (.ref o0), .val (.ref o1), .val (.int (0 : Int32))] [(.ref o0)]))
  refine own_st (fun _ => XS.iloadN X0.here hx rfl (hb hby own_deq2_16) rfl) ?_
  show own_End p e below P (s₁.setTop (mkF m 17 #[.val (.ref o0), .val (.ref o1), .val (.int (0 : Int32))] [(.int (0 : Int32)), (.ref o0)]))
  refine own_baload X0 hx hZ e0 A_o0 (j := (0 : Int32)) (v := c0) (i := 0) (by decide) rfl (g := (mkF m 17 #[.val (.ref o0), .val (.ref o1), .val (.int (0 : Int32))] [(.int (0 : Int32)), (.ref o0)])) rfl rfl (hb hby own_deq2_17) ?_
  show own_End p e below P (s₁.setTop (mkF m 18 #[.val (.ref o0), .val (.ref o1), .val (.int (0 : Int32))] [(.int c0)]))
  refine own_st (fun _ => XS.aloadN X0.here hx rfl (hb hby own_deq2_18) rfl rfl) ?_
  show own_End p e below P (s₁.setTop (mkF m 19 #[.val (.ref o0), .val (.ref o1), .val (.int (0 : Int32))] [(.ref o1), (.int c0)]))
  refine own_st (fun _ => XS.iloadN X0.here hx rfl (hb hby own_deq2_19) rfl) ?_
  show own_End p e below P (s₁.setTop (mkF m 20 #[.val (.ref o0), .val (.ref o1), .val (.int (0 : Int32))] [(.int (0 : Int32)), (.ref o1), (.int c0)]))
  refine own_baload X0 hx hZ e0 A_o1 (j := (0 : Int32)) (v := d0) (i := 0) (by decide) rfl (g := (mkF m 20 #[.val (.ref o0), .val (.ref o1), .val (.int (0 : Int32))] [(.int (0 : Int32)), (.ref o1), (.int c0)])) rfl rfl (hb hby own_deq2_20) ?_
  show own_End p e below P (s₁.setTop (mkF m 21 #[.val (.ref o0), .val (.ref o1), .val (.int (0 : Int32))] [(.int d0), (.int c0)]))
  by_cases hc1 : c0 = d0
  · refine own_st (fun _ => XS.icmpYes X0.here hx rfl (pc0 := 21) (pc' := 26) rfl (hb hby own_deq2_21) rfl (teq hc1).1 (by decide) (by decide)) ?_
    show own_End p e below P (s₁.setTop (mkF m 26 #[.val (.ref o0), .val (.ref o1), .val (.int (0 : Int32))] []))
    refine own_st (fun _ => XS.iinc X0.here hx rfl (hb hby own_deq2_26) rfl (l' := #[.val (.ref o0), .val (.ref o1), .val (.int (1 : Int32))]) rfl) ?_
    show own_End p e below P (s₁.setTop (mkF m 29 #[.val (.ref o0), .val (.ref o1), .val (.int (1 : Int32))] []))
    refine own_st (fun _ => XS.goto X0.here hx rfl (pc0 := 29) (pc' := 9) rfl (hb hby own_deq2_29) (by decide) (by decide)) ?_
    show own_End p e below P (s₁.setTop (mkF m 9 #[.val (.ref o0), .val (.ref o1), .val (.int (1 : Int32))] []))
    refine own_st (fun _ => XS.iloadN X0.here hx rfl (hb hby own_deq2_9) rfl) ?_
    show own_End p e below P (s₁.setTop (mkF m 10 #[.val (.ref o0), .val (.ref o1), .val (.int (1 : Int32))] [(.int (1 : Int32))]))
    refine own_st (fun _ => XS.aloadN X0.here hx rfl (hb hby own_deq2_10) rfl rfl) ?_
    show own_End p e below P (s₁.setTop (mkF m 11 #[.val (.ref o0), .val (.ref o1), .val (.int (1 : Int32))] [(.ref o0), (.int (1 : Int32))]))
    refine own_alenB X0 hx hZ e0 A_o0 (g := (mkF m 11 #[.val (.ref o0), .val (.ref o1), .val (.int (1 : Int32))] [(.ref o0), (.int (1 : Int32))])) rfl rfl (hb hby own_deq2_11) ?_
    show own_End p e below P (s₁.setTop (mkF m 12 #[.val (.ref o0), .val (.ref o1), .val (.int (1 : Int32))] [(.int (2 : Int32)), (.int (1 : Int32))]))
    refine own_st (fun _ => XS.icmpNo X0.here hx rfl (hb hby own_deq2_12) rfl (tlt (by decide : (1 : Int32) < (2 : Int32))).2.1) ?_
    show own_End p e below P (s₁.setTop (mkF m 15 #[.val (.ref o0), .val (.ref o1), .val (.int (1 : Int32))] []))
    refine own_st (fun _ => XS.aloadN X0.here hx rfl (hb hby own_deq2_15) rfl rfl) ?_
    show own_End p e below P (s₁.setTop (mkF m 16 #[.val (.ref o0), .val (.ref o1), .val (.int (1 : Int32))] [(.ref o0)]))
    refine own_st (fun _ => XS.iloadN X0.here hx rfl (hb hby own_deq2_16) rfl) ?_
    show own_End p e below P (s₁.setTop (mkF m 17 #[.val (.ref o0), .val (.ref o1), .val (.int (1 : Int32))] [(.int (1 : Int32)), (.ref o0)]))
    refine own_baload X0 hx hZ e0 A_o0 (j := (1 : Int32)) (v := c1) (i := 1) (by decide) rfl (g := (mkF m 17 #[.val (.ref o0), .val (.ref o1), .val (.int (1 : Int32))] [(.int (1 : Int32)), (.ref o0)])) rfl rfl (hb hby own_deq2_17) ?_
    show own_End p e below P (s₁.setTop (mkF m 18 #[.val (.ref o0), .val (.ref o1), .val (.int (1 : Int32))] [(.int c1)]))
    refine own_st (fun _ => XS.aloadN X0.here hx rfl (hb hby own_deq2_18) rfl rfl) ?_
    show own_End p e below P (s₁.setTop (mkF m 19 #[.val (.ref o0), .val (.ref o1), .val (.int (1 : Int32))] [(.ref o1), (.int c1)]))
    refine own_st (fun _ => XS.iloadN X0.here hx rfl (hb hby own_deq2_19) rfl) ?_
    show own_End p e below P (s₁.setTop (mkF m 20 #[.val (.ref o0), .val (.ref o1), .val (.int (1 : Int32))] [(.int (1 : Int32)), (.ref o1), (.int c1)]))
    refine own_baload X0 hx hZ e0 A_o1 (j := (1 : Int32)) (v := d1) (i := 1) (by decide) rfl (g := (mkF m 20 #[.val (.ref o0), .val (.ref o1), .val (.int (1 : Int32))] [(.int (1 : Int32)), (.ref o1), (.int c1)])) rfl rfl (hb hby own_deq2_20) ?_
    show own_End p e below P (s₁.setTop (mkF m 21 #[.val (.ref o0), .val (.ref o1), .val (.int (1 : Int32))] [(.int d1), (.int c1)]))
    by_cases hc2 : c1 = d1
    · refine own_st (fun _ => XS.icmpYes X0.here hx rfl (pc0 := 21) (pc' := 26) rfl (hb hby own_deq2_21) rfl (teq hc2).1 (by decide) (by decide)) ?_
      show own_End p e below P (s₁.setTop (mkF m 26 #[.val (.ref o0), .val (.ref o1), .val (.int (1 : Int32))] []))
      refine own_st (fun _ => XS.iinc X0.here hx rfl (hb hby own_deq2_26) rfl (l' := #[.val (.ref o0), .val (.ref o1), .val (.int (2 : Int32))]) rfl) ?_
      show own_End p e below P (s₁.setTop (mkF m 29 #[.val (.ref o0), .val (.ref o1), .val (.int (2 : Int32))] []))
      refine own_st (fun _ => XS.goto X0.here hx rfl (pc0 := 29) (pc' := 9) rfl (hb hby own_deq2_29) (by decide) (by decide)) ?_
      show own_End p e below P (s₁.setTop (mkF m 9 #[.val (.ref o0), .val (.ref o1), .val (.int (2 : Int32))] []))
      refine own_st (fun _ => XS.iloadN X0.here hx rfl (hb hby own_deq2_9) rfl) ?_
      show own_End p e below P (s₁.setTop (mkF m 10 #[.val (.ref o0), .val (.ref o1), .val (.int (2 : Int32))] [(.int (2 : Int32))]))
      refine own_st (fun _ => XS.aloadN X0.here hx rfl (hb hby own_deq2_10) rfl rfl) ?_
      show own_End p e below P (s₁.setTop (mkF m 11 #[.val (.ref o0), .val (.ref o1), .val (.int (2 : Int32))] [(.ref o0), (.int (2 : Int32))]))
      refine own_alenB X0 hx hZ e0 A_o0 (g := (mkF m 11 #[.val (.ref o0), .val (.ref o1), .val (.int (2 : Int32))] [(.ref o0), (.int (2 : Int32))])) rfl rfl (hb hby own_deq2_11) ?_
      show own_End p e below P (s₁.setTop (mkF m 12 #[.val (.ref o0), .val (.ref o1), .val (.int (2 : Int32))] [(.int (2 : Int32)), (.int (2 : Int32))]))
      refine own_st (fun _ => XS.icmpYes X0.here hx rfl (pc0 := 12) (pc' := 32) rfl (hb hby own_deq2_12) rfl (flt (by decide : ¬ ((2 : Int32) < (2 : Int32)))).2.1 (by decide) (by decide)) ?_
      show own_End p e below P (s₁.setTop (mkF m 32 #[.val (.ref o0), .val (.ref o1), .val (.int (2 : Int32))] []))
      refine own_st (fun _ => XS.iconst X0.here hx rfl (hb hby own_deq2_32)) ?_
      show own_End p e below P (s₁.setTop (mkF m 33 #[.val (.ref o0), .val (.ref o1), .val (.int (2 : Int32))] [(.int (1 : Int32))]))
      refine own_retN X0 hx hlk hP (t := .boolean) (by simp) hrt (hb hby own_deq2_33) (by decide) (by decide) ⟨congrArg (fun z => some (Value.int z)) ?_, N0, e0⟩
      exact (show own_feq2 c0 c1 d0 d1 = (1 : Int32) from (if_pos hc1).trans ((if_pos hc2).trans (rfl))).symm
    · refine own_st (fun _ => XS.icmpNo X0.here hx rfl (hb hby own_deq2_21) rfl (feq hc2).1) ?_
      show own_End p e below P (s₁.setTop (mkF m 24 #[.val (.ref o0), .val (.ref o1), .val (.int (1 : Int32))] []))
      refine own_st (fun _ => XS.iconst X0.here hx rfl (hb hby own_deq2_24)) ?_
      show own_End p e below P (s₁.setTop (mkF m 25 #[.val (.ref o0), .val (.ref o1), .val (.int (1 : Int32))] [(.int (0 : Int32))]))
      refine own_retN X0 hx hlk hP (t := .boolean) (by simp) hrt (hb hby own_deq2_25) (by decide) (by decide) ⟨congrArg (fun z => some (Value.int z)) ?_, N0, e0⟩
      exact (show own_feq2 c0 c1 d0 d1 = (0 : Int32) from (if_pos hc1).trans ((if_neg hc2).trans (rfl))).symm
  · refine own_st (fun _ => XS.icmpNo X0.here hx rfl (hb hby own_deq2_21) rfl (feq hc1).1) ?_
    show own_End p e below P (s₁.setTop (mkF m 24 #[.val (.ref o0), .val (.ref o1), .val (.int (0 : Int32))] []))
    refine own_st (fun _ => XS.iconst X0.here hx rfl (hb hby own_deq2_24)) ?_
    show own_End p e below P (s₁.setTop (mkF m 25 #[.val (.ref o0), .val (.ref o1), .val (.int (0 : Int32))] [(.int (0 : Int32))]))
    refine own_retN X0 hx hlk hP (t := .boolean) (by simp) hrt (hb hby own_deq2_25) (by decide) (by decide) ⟨congrArg (fun z => some (Value.int z)) ?_, N0, e0⟩
    exact (show own_feq2 c0 c1 d0 d1 = (0 : Int32) from (if_neg hc1).trans (rfl)).symm
theorem own_deq3_0 : decode jdk_43_method_13_code 0 = .ok (.aload_n 0, 1) := by decide +kernel
theorem own_deq3_1 : decode jdk_43_method_13_code 1 = .ok (.arraylength, 1) := by decide +kernel
theorem own_deq3_2 : decode jdk_43_method_13_code 2 = .ok (.aload_n 1, 1) := by decide +kernel
theorem own_deq3_3 : decode jdk_43_method_13_code 3 = .ok (.arraylength, 1) := by decide +kernel
theorem own_deq3_4 : decode jdk_43_method_13_code 4 = .ok (.if_icmp .ne 30, 3) := by decide +kernel
theorem own_deq3_7 : decode jdk_43_method_13_code 7 = .ok (.iconst 0, 1) := by decide +kernel
theorem own_deq3_8 : decode jdk_43_method_13_code 8 = .ok (.istore_n 2, 1) := by decide +kernel
theorem own_deq3_9 : decode jdk_43_method_13_code 9 = .ok (.iload_n 2, 1) := by decide +kernel
theorem own_deq3_10 : decode jdk_43_method_13_code 10 = .ok (.aload_n 0, 1) := by decide +kernel
theorem own_deq3_11 : decode jdk_43_method_13_code 11 = .ok (.arraylength, 1) := by decide +kernel
theorem own_deq3_12 : decode jdk_43_method_13_code 12 = .ok (.if_icmp .ge 20, 3) := by decide +kernel
theorem own_deq3_15 : decode jdk_43_method_13_code 15 = .ok (.aload_n 0, 1) := by decide +kernel
theorem own_deq3_16 : decode jdk_43_method_13_code 16 = .ok (.iload_n 2, 1) := by decide +kernel
theorem own_deq3_17 : decode jdk_43_method_13_code 17 = .ok (.baload, 1) := by decide +kernel
theorem own_deq3_18 : decode jdk_43_method_13_code 18 = .ok (.aload_n 1, 1) := by decide +kernel
theorem own_deq3_19 : decode jdk_43_method_13_code 19 = .ok (.iload_n 2, 1) := by decide +kernel
theorem own_deq3_20 : decode jdk_43_method_13_code 20 = .ok (.baload, 1) := by decide +kernel
theorem own_deq3_21 : decode jdk_43_method_13_code 21 = .ok (.if_icmp .eq 5, 3) := by decide +kernel
theorem own_deq3_26 : decode jdk_43_method_13_code 26 = .ok (.iinc 2 1, 3) := by decide +kernel
theorem own_deq3_29 : decode jdk_43_method_13_code 29 = .ok (.goto (-20), 3) := by decide +kernel
theorem own_deq3_32 : decode jdk_43_method_13_code 32 = .ok (.iconst 1, 1) := by decide +kernel
theorem own_deq3_33 : decode jdk_43_method_13_code 33 = .ok (.ireturn, 1) := by decide +kernel
theorem own_deq3_24 : decode jdk_43_method_13_code 24 = .ok (.iconst 0, 1) := by decide +kernel
theorem own_deq3_25 : decode jdk_43_method_13_code 25 = .ok (.ireturn, 1) := by decide +kernel
theorem own_efeq3 (m : MethodId) (o0 : Addr) (o1 : Addr) : entryFrame m #[(.ref o0), (.ref o1)] 3 = mkF m 0 #[.val (.ref o0), .val (.ref o1), .unset] [] := by first | (simp [entryFrame, mkF, argsToLocals, Value.category]; done) | rfl
def own_feq3 (c0 : Int32) (c1 : Int32) (c2 : Int32) (d0 : Int32) (d1 : Int32) (d2 : Int32) : Int32 := (if c0 = d0 then (if c1 = d1 then (if c2 = d2 then (1 : Int32) else (0 : Int32)) else (0 : Int32)) else (0 : Int32))
set_option maxRecDepth 65536 in
set_option maxHeartbeats 40000000 in
theorem own_meq3 (l : Launch) (Z : State) (a0 : Array Value) (hw : ∀ d ∈ tables_1, d.before a0 Z = true) (ws : List Jvm.Cond) (o0 : Addr) (o1 : Addr) (c0 : Int32) (c1 : Int32) (c2 : Int32) (d0 : Int32) (d1 : Int32) (d2 : Int32) (h0 : Heap) (n0 : Nat) (Z0 : n0 ≤ h0.size) (A_o0 : own_BA Z h0 o0 [c0, c1, c2]) (A_o1 : own_BA Z h0 o1 [d0, d1, d2]) :
    own_Met l Z (⟨"java/lang/StringLatin1", "equals", "([B[B)Z"⟩ : MethodName) jdk_43_method_13_code 3 (some .boolean) ws ({ frames := 0, cells := 0, slots := 0, locals := 0 } : Room) #[(.ref o0), (.ref o1)] h0 (fun (v : Option Value) (h : Heap) (L : List Loc) => v = some (.int (own_feq3 c0 c1 c2 d0 d1 d2)) ∧ Fr n0 L ∧ h = h0) := by
  refine own_enter (plainFor_of_name own_pn_java_lang_StringLatin1) ?_
  intro p e s m below meth c s₁ P hx hby hml hrt hlk hown hnm hZ X0 e0 hP
  have N0 := Fr.nil n0
  have K0 := Keep.refl h0 []
  have hml' : c.maxLocals = 3 := hml
  refine own_cast (own_efeq3 m o0 o1) ?_
  show own_End p e below P (s₁.setTop (mkF m 0 #[.val (.ref o0), .val (.ref o1), .unset] []))
  refine own_st (fun _ => XS.aloadN X0.here hx rfl (hb hby own_deq3_0) rfl rfl) ?_
  show own_End p e below P (s₁.setTop (mkF m 1 #[.val (.ref o0), .val (.ref o1), .unset] [(.ref o0)]))
  refine own_alenB X0 hx hZ e0 A_o0 (g := (mkF m 1 #[.val (.ref o0), .val (.ref o1), .unset] [(.ref o0)])) rfl rfl (hb hby own_deq3_1) ?_
  show own_End p e below P (s₁.setTop (mkF m 2 #[.val (.ref o0), .val (.ref o1), .unset] [(.int (3 : Int32))]))
  refine own_st (fun _ => XS.aloadN X0.here hx rfl (hb hby own_deq3_2) rfl rfl) ?_
  show own_End p e below P (s₁.setTop (mkF m 3 #[.val (.ref o0), .val (.ref o1), .unset] [(.ref o1), (.int (3 : Int32))]))
  refine own_alenB X0 hx hZ e0 A_o1 (g := (mkF m 3 #[.val (.ref o0), .val (.ref o1), .unset] [(.ref o1), (.int (3 : Int32))])) rfl rfl (hb hby own_deq3_3) ?_
  show own_End p e below P (s₁.setTop (mkF m 4 #[.val (.ref o0), .val (.ref o1), .unset] [(.int (3 : Int32)), (.int (3 : Int32))]))
  refine own_st (fun _ => XS.icmpNo X0.here hx rfl (hb hby own_deq3_4) rfl (teq (by decide : (3 : Int32) = (3 : Int32))).2) ?_
  show own_End p e below P (s₁.setTop (mkF m 7 #[.val (.ref o0), .val (.ref o1), .unset] []))
  refine own_st (fun _ => XS.iconst X0.here hx rfl (hb hby own_deq3_7)) ?_
  show own_End p e below P (s₁.setTop (mkF m 8 #[.val (.ref o0), .val (.ref o1), .unset] [(.int (0 : Int32))]))
  refine own_st (fun _ => XS.istoreN X0.here hx rfl (hb hby own_deq3_8) rfl (l' := #[.val (.ref o0), .val (.ref o1), .val (.int (0 : Int32))]) rfl) ?_
  show own_End p e below P (s₁.setTop (mkF m 9 #[.val (.ref o0), .val (.ref o1), .val (.int (0 : Int32))] []))
  refine own_st (fun _ => XS.iloadN X0.here hx rfl (hb hby own_deq3_9) rfl) ?_
  show own_End p e below P (s₁.setTop (mkF m 10 #[.val (.ref o0), .val (.ref o1), .val (.int (0 : Int32))] [(.int (0 : Int32))]))
  refine own_st (fun _ => XS.aloadN X0.here hx rfl (hb hby own_deq3_10) rfl rfl) ?_
  show own_End p e below P (s₁.setTop (mkF m 11 #[.val (.ref o0), .val (.ref o1), .val (.int (0 : Int32))] [(.ref o0), (.int (0 : Int32))]))
  refine own_alenB X0 hx hZ e0 A_o0 (g := (mkF m 11 #[.val (.ref o0), .val (.ref o1), .val (.int (0 : Int32))] [(.ref o0), (.int (0 : Int32))])) rfl rfl (hb hby own_deq3_11) ?_
  show own_End p e below P (s₁.setTop (mkF m 12 #[.val (.ref o0), .val (.ref o1), .val (.int (0 : Int32))] [(.int (3 : Int32)), (.int (0 : Int32))]))
  refine own_st (fun _ => XS.icmpNo X0.here hx rfl (hb hby own_deq3_12) rfl (tlt (by decide : (0 : Int32) < (3 : Int32))).2.1) ?_
  show own_End p e below P (s₁.setTop (mkF m 15 #[.val (.ref o0), .val (.ref o1), .val (.int (0 : Int32))] []))
  refine own_st (fun _ => XS.aloadN X0.here hx rfl (hb hby own_deq3_15) rfl rfl) ?_
  show own_End p e below P (s₁.setTop (mkF m 16 #[.val (.ref o0), .val (.ref o1), .val (.int (0 : Int32))] [(.ref o0)]))
  refine own_st (fun _ => XS.iloadN X0.here hx rfl (hb hby own_deq3_16) rfl) ?_
  show own_End p e below P (s₁.setTop (mkF m 17 #[.val (.ref o0), .val (.ref o1), .val (.int (0 : Int32))] [(.int (0 : Int32)), (.ref o0)]))
  refine own_baload X0 hx hZ e0 A_o0 (j := (0 : Int32)) (v := c0) (i := 0) (by decide) rfl (g := (mkF m 17 #[.val (.ref o0), .val (.ref o1), .val (.int (0 : Int32))] [(.int (0 : Int32)), (.ref o0)])) rfl rfl (hb hby own_deq3_17) ?_
  show own_End p e below P (s₁.setTop (mkF m 18 #[.val (.ref o0), .val (.ref o1), .val (.int (0 : Int32))] [(.int c0)]))
  refine own_st (fun _ => XS.aloadN X0.here hx rfl (hb hby own_deq3_18) rfl rfl) ?_
  show own_End p e below P (s₁.setTop (mkF m 19 #[.val (.ref o0), .val (.ref o1), .val (.int (0 : Int32))] [(.ref o1), (.int c0)]))
  refine own_st (fun _ => XS.iloadN X0.here hx rfl (hb hby own_deq3_19) rfl) ?_
  show own_End p e below P (s₁.setTop (mkF m 20 #[.val (.ref o0), .val (.ref o1), .val (.int (0 : Int32))] [(.int (0 : Int32)), (.ref o1), (.int c0)]))
  refine own_baload X0 hx hZ e0 A_o1 (j := (0 : Int32)) (v := d0) (i := 0) (by decide) rfl (g := (mkF m 20 #[.val (.ref o0), .val (.ref o1), .val (.int (0 : Int32))] [(.int (0 : Int32)), (.ref o1), (.int c0)])) rfl rfl (hb hby own_deq3_20) ?_
  show own_End p e below P (s₁.setTop (mkF m 21 #[.val (.ref o0), .val (.ref o1), .val (.int (0 : Int32))] [(.int d0), (.int c0)]))
  by_cases hc1 : c0 = d0
  · refine own_st (fun _ => XS.icmpYes X0.here hx rfl (pc0 := 21) (pc' := 26) rfl (hb hby own_deq3_21) rfl (teq hc1).1 (by decide) (by decide)) ?_
    show own_End p e below P (s₁.setTop (mkF m 26 #[.val (.ref o0), .val (.ref o1), .val (.int (0 : Int32))] []))
    refine own_st (fun _ => XS.iinc X0.here hx rfl (hb hby own_deq3_26) rfl (l' := #[.val (.ref o0), .val (.ref o1), .val (.int (1 : Int32))]) rfl) ?_
    show own_End p e below P (s₁.setTop (mkF m 29 #[.val (.ref o0), .val (.ref o1), .val (.int (1 : Int32))] []))
    refine own_st (fun _ => XS.goto X0.here hx rfl (pc0 := 29) (pc' := 9) rfl (hb hby own_deq3_29) (by decide) (by decide)) ?_
    show own_End p e below P (s₁.setTop (mkF m 9 #[.val (.ref o0), .val (.ref o1), .val (.int (1 : Int32))] []))
    refine own_st (fun _ => XS.iloadN X0.here hx rfl (hb hby own_deq3_9) rfl) ?_
    show own_End p e below P (s₁.setTop (mkF m 10 #[.val (.ref o0), .val (.ref o1), .val (.int (1 : Int32))] [(.int (1 : Int32))]))
    refine own_st (fun _ => XS.aloadN X0.here hx rfl (hb hby own_deq3_10) rfl rfl) ?_
    show own_End p e below P (s₁.setTop (mkF m 11 #[.val (.ref o0), .val (.ref o1), .val (.int (1 : Int32))] [(.ref o0), (.int (1 : Int32))]))
    refine own_alenB X0 hx hZ e0 A_o0 (g := (mkF m 11 #[.val (.ref o0), .val (.ref o1), .val (.int (1 : Int32))] [(.ref o0), (.int (1 : Int32))])) rfl rfl (hb hby own_deq3_11) ?_
    show own_End p e below P (s₁.setTop (mkF m 12 #[.val (.ref o0), .val (.ref o1), .val (.int (1 : Int32))] [(.int (3 : Int32)), (.int (1 : Int32))]))
    refine own_st (fun _ => XS.icmpNo X0.here hx rfl (hb hby own_deq3_12) rfl (tlt (by decide : (1 : Int32) < (3 : Int32))).2.1) ?_
    show own_End p e below P (s₁.setTop (mkF m 15 #[.val (.ref o0), .val (.ref o1), .val (.int (1 : Int32))] []))
    refine own_st (fun _ => XS.aloadN X0.here hx rfl (hb hby own_deq3_15) rfl rfl) ?_
    show own_End p e below P (s₁.setTop (mkF m 16 #[.val (.ref o0), .val (.ref o1), .val (.int (1 : Int32))] [(.ref o0)]))
    refine own_st (fun _ => XS.iloadN X0.here hx rfl (hb hby own_deq3_16) rfl) ?_
    show own_End p e below P (s₁.setTop (mkF m 17 #[.val (.ref o0), .val (.ref o1), .val (.int (1 : Int32))] [(.int (1 : Int32)), (.ref o0)]))
    refine own_baload X0 hx hZ e0 A_o0 (j := (1 : Int32)) (v := c1) (i := 1) (by decide) rfl (g := (mkF m 17 #[.val (.ref o0), .val (.ref o1), .val (.int (1 : Int32))] [(.int (1 : Int32)), (.ref o0)])) rfl rfl (hb hby own_deq3_17) ?_
    show own_End p e below P (s₁.setTop (mkF m 18 #[.val (.ref o0), .val (.ref o1), .val (.int (1 : Int32))] [(.int c1)]))
    refine own_st (fun _ => XS.aloadN X0.here hx rfl (hb hby own_deq3_18) rfl rfl) ?_
    show own_End p e below P (s₁.setTop (mkF m 19 #[.val (.ref o0), .val (.ref o1), .val (.int (1 : Int32))] [(.ref o1), (.int c1)]))
    refine own_st (fun _ => XS.iloadN X0.here hx rfl (hb hby own_deq3_19) rfl) ?_
    show own_End p e below P (s₁.setTop (mkF m 20 #[.val (.ref o0), .val (.ref o1), .val (.int (1 : Int32))] [(.int (1 : Int32)), (.ref o1), (.int c1)]))
    refine own_baload X0 hx hZ e0 A_o1 (j := (1 : Int32)) (v := d1) (i := 1) (by decide) rfl (g := (mkF m 20 #[.val (.ref o0), .val (.ref o1), .val (.int (1 : Int32))] [(.int (1 : Int32)), (.ref o1), (.int c1)])) rfl rfl (hb hby own_deq3_20) ?_
    show own_End p e below P (s₁.setTop (mkF m 21 #[.val (.ref o0), .val (.ref o1), .val (.int (1 : Int32))] [(.int d1), (.int c1)]))
    by_cases hc2 : c1 = d1
    · refine own_st (fun _ => XS.icmpYes X0.here hx rfl (pc0 := 21) (pc' := 26) rfl (hb hby own_deq3_21) rfl (teq hc2).1 (by decide) (by decide)) ?_
      show own_End p e below P (s₁.setTop (mkF m 26 #[.val (.ref o0), .val (.ref o1), .val (.int (1 : Int32))] []))
      refine own_st (fun _ => XS.iinc X0.here hx rfl (hb hby own_deq3_26) rfl (l' := #[.val (.ref o0), .val (.ref o1), .val (.int (2 : Int32))]) rfl) ?_
      show own_End p e below P (s₁.setTop (mkF m 29 #[.val (.ref o0), .val (.ref o1), .val (.int (2 : Int32))] []))
      refine own_st (fun _ => XS.goto X0.here hx rfl (pc0 := 29) (pc' := 9) rfl (hb hby own_deq3_29) (by decide) (by decide)) ?_
      show own_End p e below P (s₁.setTop (mkF m 9 #[.val (.ref o0), .val (.ref o1), .val (.int (2 : Int32))] []))
      refine own_st (fun _ => XS.iloadN X0.here hx rfl (hb hby own_deq3_9) rfl) ?_
      show own_End p e below P (s₁.setTop (mkF m 10 #[.val (.ref o0), .val (.ref o1), .val (.int (2 : Int32))] [(.int (2 : Int32))]))
      refine own_st (fun _ => XS.aloadN X0.here hx rfl (hb hby own_deq3_10) rfl rfl) ?_
      show own_End p e below P (s₁.setTop (mkF m 11 #[.val (.ref o0), .val (.ref o1), .val (.int (2 : Int32))] [(.ref o0), (.int (2 : Int32))]))
      refine own_alenB X0 hx hZ e0 A_o0 (g := (mkF m 11 #[.val (.ref o0), .val (.ref o1), .val (.int (2 : Int32))] [(.ref o0), (.int (2 : Int32))])) rfl rfl (hb hby own_deq3_11) ?_
      show own_End p e below P (s₁.setTop (mkF m 12 #[.val (.ref o0), .val (.ref o1), .val (.int (2 : Int32))] [(.int (3 : Int32)), (.int (2 : Int32))]))
      refine own_st (fun _ => XS.icmpNo X0.here hx rfl (hb hby own_deq3_12) rfl (tlt (by decide : (2 : Int32) < (3 : Int32))).2.1) ?_
      show own_End p e below P (s₁.setTop (mkF m 15 #[.val (.ref o0), .val (.ref o1), .val (.int (2 : Int32))] []))
      refine own_st (fun _ => XS.aloadN X0.here hx rfl (hb hby own_deq3_15) rfl rfl) ?_
      show own_End p e below P (s₁.setTop (mkF m 16 #[.val (.ref o0), .val (.ref o1), .val (.int (2 : Int32))] [(.ref o0)]))
      refine own_st (fun _ => XS.iloadN X0.here hx rfl (hb hby own_deq3_16) rfl) ?_
      show own_End p e below P (s₁.setTop (mkF m 17 #[.val (.ref o0), .val (.ref o1), .val (.int (2 : Int32))] [(.int (2 : Int32)), (.ref o0)]))
      refine own_baload X0 hx hZ e0 A_o0 (j := (2 : Int32)) (v := c2) (i := 2) (by decide) rfl (g := (mkF m 17 #[.val (.ref o0), .val (.ref o1), .val (.int (2 : Int32))] [(.int (2 : Int32)), (.ref o0)])) rfl rfl (hb hby own_deq3_17) ?_
      show own_End p e below P (s₁.setTop (mkF m 18 #[.val (.ref o0), .val (.ref o1), .val (.int (2 : Int32))] [(.int c2)]))
      refine own_st (fun _ => XS.aloadN X0.here hx rfl (hb hby own_deq3_18) rfl rfl) ?_
      show own_End p e below P (s₁.setTop (mkF m 19 #[.val (.ref o0), .val (.ref o1), .val (.int (2 : Int32))] [(.ref o1), (.int c2)]))
      refine own_st (fun _ => XS.iloadN X0.here hx rfl (hb hby own_deq3_19) rfl) ?_
      show own_End p e below P (s₁.setTop (mkF m 20 #[.val (.ref o0), .val (.ref o1), .val (.int (2 : Int32))] [(.int (2 : Int32)), (.ref o1), (.int c2)]))
      refine own_baload X0 hx hZ e0 A_o1 (j := (2 : Int32)) (v := d2) (i := 2) (by decide) rfl (g := (mkF m 20 #[.val (.ref o0), .val (.ref o1), .val (.int (2 : Int32))] [(.int (2 : Int32)), (.ref o1), (.int c2)])) rfl rfl (hb hby own_deq3_20) ?_
      show own_End p e below P (s₁.setTop (mkF m 21 #[.val (.ref o0), .val (.ref o1), .val (.int (2 : Int32))] [(.int d2), (.int c2)]))
      by_cases hc3 : c2 = d2
      · refine own_st (fun _ => XS.icmpYes X0.here hx rfl (pc0 := 21) (pc' := 26) rfl (hb hby own_deq3_21) rfl (teq hc3).1 (by decide) (by decide)) ?_
        show own_End p e below P (s₁.setTop (mkF m 26 #[.val (.ref o0), .val (.ref o1), .val (.int (2 : Int32))] []))
        refine own_st (fun _ => XS.iinc X0.here hx rfl (hb hby own_deq3_26) rfl (l' := #[.val (.ref o0), .val (.ref o1), .val (.int (3 : Int32))]) rfl) ?_
        show own_End p e below P (s₁.setTop (mkF m 29 #[.val (.ref o0), .val (.ref o1), .val (.int (3 : Int32))] []))
        refine own_st (fun _ => XS.goto X0.here hx rfl (pc0 := 29) (pc' := 9) rfl (hb hby own_deq3_29) (by decide) (by decide)) ?_
        show own_End p e below P (s₁.setTop (mkF m 9 #[.val (.ref o0), .val (.ref o1), .val (.int (3 : Int32))] []))
        refine own_st (fun _ => XS.iloadN X0.here hx rfl (hb hby own_deq3_9) rfl) ?_
        show own_End p e below P (s₁.setTop (mkF m 10 #[.val (.ref o0), .val (.ref o1), .val (.int (3 : Int32))] [(.int (3 : Int32))]))
        refine own_st (fun _ => XS.aloadN X0.here hx rfl (hb hby own_deq3_10) rfl rfl) ?_
        show own_End p e below P (s₁.setTop (mkF m 11 #[.val (.ref o0), .val (.ref o1), .val (.int (3 : Int32))] [(.ref o0), (.int (3 : Int32))]))
        refine own_alenB X0 hx hZ e0 A_o0 (g := (mkF m 11 #[.val (.ref o0), .val (.ref o1), .val (.int (3 : Int32))] [(.ref o0), (.int (3 : Int32))])) rfl rfl (hb hby own_deq3_11) ?_
        show own_End p e below P (s₁.setTop (mkF m 12 #[.val (.ref o0), .val (.ref o1), .val (.int (3 : Int32))] [(.int (3 : Int32)), (.int (3 : Int32))]))
        refine own_st (fun _ => XS.icmpYes X0.here hx rfl (pc0 := 12) (pc' := 32) rfl (hb hby own_deq3_12) rfl (flt (by decide : ¬ ((3 : Int32) < (3 : Int32)))).2.1 (by decide) (by decide)) ?_
        show own_End p e below P (s₁.setTop (mkF m 32 #[.val (.ref o0), .val (.ref o1), .val (.int (3 : Int32))] []))
        refine own_st (fun _ => XS.iconst X0.here hx rfl (hb hby own_deq3_32)) ?_
        show own_End p e below P (s₁.setTop (mkF m 33 #[.val (.ref o0), .val (.ref o1), .val (.int (3 : Int32))] [(.int (1 : Int32))]))
        refine own_retN X0 hx hlk hP (t := .boolean) (by simp) hrt (hb hby own_deq3_33) (by decide) (by decide) ⟨congrArg (fun z => some (Value.int z)) ?_, N0, e0⟩
        exact (show own_feq3 c0 c1 c2 d0 d1 d2 = (1 : Int32) from (if_pos hc1).trans ((if_pos hc2).trans ((if_pos hc3).trans (rfl)))).symm
      · refine own_st (fun _ => XS.icmpNo X0.here hx rfl (hb hby own_deq3_21) rfl (feq hc3).1) ?_
        show own_End p e below P (s₁.setTop (mkF m 24 #[.val (.ref o0), .val (.ref o1), .val (.int (2 : Int32))] []))
        refine own_st (fun _ => XS.iconst X0.here hx rfl (hb hby own_deq3_24)) ?_
        show own_End p e below P (s₁.setTop (mkF m 25 #[.val (.ref o0), .val (.ref o1), .val (.int (2 : Int32))] [(.int (0 : Int32))]))
        refine own_retN X0 hx hlk hP (t := .boolean) (by simp) hrt (hb hby own_deq3_25) (by decide) (by decide) ⟨congrArg (fun z => some (Value.int z)) ?_, N0, e0⟩
        exact (show own_feq3 c0 c1 c2 d0 d1 d2 = (0 : Int32) from (if_pos hc1).trans ((if_pos hc2).trans ((if_neg hc3).trans (rfl)))).symm
    · refine own_st (fun _ => XS.icmpNo X0.here hx rfl (hb hby own_deq3_21) rfl (feq hc2).1) ?_
      show own_End p e below P (s₁.setTop (mkF m 24 #[.val (.ref o0), .val (.ref o1), .val (.int (1 : Int32))] []))
      refine own_st (fun _ => XS.iconst X0.here hx rfl (hb hby own_deq3_24)) ?_
      show own_End p e below P (s₁.setTop (mkF m 25 #[.val (.ref o0), .val (.ref o1), .val (.int (1 : Int32))] [(.int (0 : Int32))]))
      refine own_retN X0 hx hlk hP (t := .boolean) (by simp) hrt (hb hby own_deq3_25) (by decide) (by decide) ⟨congrArg (fun z => some (Value.int z)) ?_, N0, e0⟩
      exact (show own_feq3 c0 c1 c2 d0 d1 d2 = (0 : Int32) from (if_pos hc1).trans ((if_neg hc2).trans (rfl))).symm
  · refine own_st (fun _ => XS.icmpNo X0.here hx rfl (hb hby own_deq3_21) rfl (feq hc1).1) ?_
    show own_End p e below P (s₁.setTop (mkF m 24 #[.val (.ref o0), .val (.ref o1), .val (.int (0 : Int32))] []))
    refine own_st (fun _ => XS.iconst X0.here hx rfl (hb hby own_deq3_24)) ?_
    show own_End p e below P (s₁.setTop (mkF m 25 #[.val (.ref o0), .val (.ref o1), .val (.int (0 : Int32))] [(.int (0 : Int32))]))
    refine own_retN X0 hx hlk hP (t := .boolean) (by simp) hrt (hb hby own_deq3_25) (by decide) (by decide) ⟨congrArg (fun z => some (Value.int z)) ?_, N0, e0⟩
    exact (show own_feq3 c0 c1 c2 d0 d1 d2 = (0 : Int32) from (if_neg hc1).trans (rfl)).symm
def own_feqm (xs ys : List Int32) : Int32 := if xs = ys then 1 else 0
theorem own_ofNat {i j : Nat} (hi : i ≤ 3) (hj : j ≤ 3) (e : Int32.ofNat i = Int32.ofNat j) : i = j := by
  have q := congrArg Int32.toInt e
  rw [Int32.toInt_ofNat_small (by omega), Int32.toInt_ofNat_small (by omega)] at q
  omega
theorem own_eqf0 : own_feqm [] [] = own_feq0 := rfl
theorem own_eqf1 (c0 d0 : Int32) : own_feqm [c0] [d0] = own_feq1 c0 d0 := by
  unfold own_feqm own_feq1
  simp only [List.cons.injEq, and_true]
  repeat' split
  all_goals simp_all
theorem own_eqf2 (c0 c1 d0 d1 : Int32) : own_feqm [c0, c1] [d0, d1] = own_feq2 c0 c1 d0 d1 := by
  unfold own_feqm own_feq2
  simp only [List.cons.injEq, and_true]
  repeat' split
  all_goals simp_all
theorem own_eqf3 (c0 c1 c2 d0 d1 d2 : Int32) : own_feqm [c0, c1, c2] [d0, d1, d2] = own_feq3 c0 c1 c2 d0 d1 d2 := by
  unfold own_feqm own_feq3
  simp only [List.cons.injEq, and_true]
  repeat' split
  all_goals simp_all
theorem own_len1 {xs : List Int32} (h : xs.length = 1) : ∃ a, xs = [a] := match xs, h with | [a], _ => ⟨a, rfl⟩
theorem own_len2 {xs : List Int32} (h : xs.length = 2) : ∃ a b, xs = [a, b] := match xs, h with | [a, b], _ => ⟨a, b, rfl⟩
theorem own_len3 {xs : List Int32} (h : xs.length = 3) : ∃ a b c, xs = [a, b, c] := match xs, h with | [a, b, c], _ => ⟨a, b, c, rfl⟩
set_option maxRecDepth 65536 in
set_option maxHeartbeats 4000000 in
theorem own_meqm (l : Launch) (Z : State) (a0 : Array Value) (hw : ∀ d ∈ tables_1, d.before a0 Z = true) (ws : List Jvm.Cond) (o0 o1 : Addr) (xs ys : List Int32) (h0 : Heap) (n0 : Nat) (Z0 : n0 ≤ h0.size) (A : own_BA Z h0 o0 xs) (B : own_BA Z h0 o1 ys) (h1 : xs.length ≤ 3) (h2 : ys.length ≤ 3) :
    own_Met l Z (⟨"java/lang/StringLatin1", "equals", "([B[B)Z"⟩ : MethodName) jdk_43_method_13_code 3 (some (.boolean)) ws ({ frames := 0, cells := 0, slots := 0, locals := 0 } : Room) #[(.ref o0), (.ref o1)] h0 (fun (v : Option Value) (h : Heap) (L : List Loc) => v = some (.int (own_feqm xs ys)) ∧ Fr n0 L ∧ h = h0) := by
  by_cases e : xs.length = ys.length
  · obtain q | q | q | q : xs.length = 0 ∨ xs.length = 1 ∨ xs.length = 2 ∨ xs.length = 3 := by omega
    · obtain rfl := List.length_eq_zero_iff.mp q
      obtain rfl := List.length_eq_zero_iff.mp (e.symm.trans q)
      rw [own_eqf0]; exact own_meq0 l Z a0 hw ws o0 o1 h0 n0 Z0 A B
    · obtain ⟨c0, rfl⟩ := own_len1 q
      obtain ⟨d0, rfl⟩ := own_len1 (e.symm.trans q)
      rw [own_eqf1]; exact own_meq1 l Z a0 hw ws o0 o1 _ _ h0 n0 Z0 A B
    · obtain ⟨c0, c1, rfl⟩ := own_len2 q
      obtain ⟨d0, d1, rfl⟩ := own_len2 (e.symm.trans q)
      rw [own_eqf2]; exact own_meq2 l Z a0 hw ws o0 o1 _ _ _ _ h0 n0 Z0 A B
    · obtain ⟨c0, c1, c2, rfl⟩ := own_len3 q
      obtain ⟨d0, d1, d2, rfl⟩ := own_len3 (e.symm.trans q)
      rw [own_eqf3]; exact own_meq3 l Z a0 hw ws o0 o1 _ _ _ _ _ _ h0 n0 Z0 A B
  · rw [show own_feqm xs ys = 0 from if_neg fun q => e (by rw [q])]
    exact own_meqn l Z a0 hw ws o0 o1 xs ys h0 n0 Z0 A B fun q => e (own_ofNat h1 h2 q)
theorem own_dsqs_0 : decode jdk_42_method_66_code 0 = .ok (.aload_n 0, 1) := by decide +kernel
theorem own_dsqs_1 : decode jdk_42_method_66_code 1 = .ok (.aload_n 1, 1) := by decide +kernel
theorem own_dsqs_2 : decode jdk_42_method_66_code 2 = .ok (.if_acmp .ne 5, 3) := by decide +kernel
theorem own_dsqs_5 : decode jdk_42_method_66_code 5 = .ok (.iconst 1, 1) := by decide +kernel
theorem own_dsqs_6 : decode jdk_42_method_66_code 6 = .ok (.ireturn, 1) := by decide +kernel
theorem own_efsqs (m : MethodId) (o0 : Addr) : entryFrame m #[(.ref o0), (.ref o0)] 3 = mkF m 0 #[.val (.ref o0), .val (.ref o0), .unset] [] := by first | (simp [entryFrame, mkF, argsToLocals, Value.category]; done) | rfl
set_option maxRecDepth 65536 in
set_option maxHeartbeats 40000000 in
theorem own_msqs (l : Launch) (Z : State) (a0 : Array Value) (hw : ∀ d ∈ tables_1, d.before a0 Z = true) (ws : List Jvm.Cond) (o0 : Addr)  (h0 : Heap) (n0 : Nat) (Z0 : n0 ≤ h0.size)  :
    own_Met l Z (⟨"java/lang/String", "equals", "(Ljava/lang/Object;)Z"⟩ : MethodName) jdk_42_method_66_code 3 (some .boolean) ws ({ frames := 0, cells := 0, slots := 0, locals := 0 } : Room) #[(.ref o0), (.ref o0)] h0 (fun (v : Option Value) (h : Heap) (L : List Loc) => v = some (.int (1 : Int32)) ∧ Fr n0 L ∧ h = h0) := by
  refine own_enter (plainFor_of_name own_pn_java_lang_String) ?_
  intro p e s m below meth c s₁ P hx hby hml hrt hlk hown hnm hZ X0 e0 hP
  have N0 := Fr.nil n0
  have K0 := Keep.refl h0 []
  have hml' : c.maxLocals = 3 := hml
  refine own_cast (own_efsqs m o0) ?_
  show own_End p e below P (s₁.setTop (mkF m 0 #[.val (.ref o0), .val (.ref o0), .unset] []))
  refine own_st (fun _ => XS.aloadN X0.here hx rfl (hb hby own_dsqs_0) rfl rfl) ?_
  show own_End p e below P (s₁.setTop (mkF m 1 #[.val (.ref o0), .val (.ref o0), .unset] [(.ref o0)]))
  refine own_st (fun _ => XS.aloadN X0.here hx rfl (hb hby own_dsqs_1) rfl rfl) ?_
  show own_End p e below P (s₁.setTop (mkF m 2 #[.val (.ref o0), .val (.ref o0), .unset] [(.ref o0), (.ref o0)]))
  refine own_st (fun _ => Jvm.RoadKit.acmp (g := (mkF m 2 #[.val (.ref o0), .val (.ref o0), .unset] [(.ref o0), (.ref o0)])) X0 hx rfl rfl rfl (pc0 := 2) (pc' := 5) (same := true) rfl (hb hby own_dsqs_2) rfl (decide_eq_true rfl) (by decide) (by decide)) ?_
  show own_End p e below P (s₁.setTop (mkF m 5 #[.val (.ref o0), .val (.ref o0), .unset] []))
  refine own_st (fun _ => XS.iconst X0.here hx rfl (hb hby own_dsqs_5)) ?_
  show own_End p e below P (s₁.setTop (mkF m 6 #[.val (.ref o0), .val (.ref o0), .unset] [(.int (1 : Int32))]))
  exact own_retN X0 hx hlk hP (t := .boolean) (by simp) hrt (hb hby own_dsqs_6) (by decide) (by decide) ⟨rfl, N0, e0⟩
theorem own_dsq_0 : decode jdk_42_method_66_code 0 = .ok (.aload_n 0, 1) := by decide +kernel
theorem own_dsq_1 : decode jdk_42_method_66_code 1 = .ok (.aload_n 1, 1) := by decide +kernel
theorem own_dsq_2 : decode jdk_42_method_66_code 2 = .ok (.if_acmp .ne 5, 3) := by decide +kernel
theorem own_dsq_7 : decode jdk_42_method_66_code 7 = .ok (.aload_n 1, 1) := by decide +kernel
theorem own_dsq_8 : decode jdk_42_method_66_code 8 = .ok (.instanceof 10, 3) := by decide +kernel
theorem own_dsq_11 : decode jdk_42_method_66_code 11 = .ok (.ifCond .eq 43, 3) := by decide +kernel
theorem own_dsq_14 : decode jdk_42_method_66_code 14 = .ok (.aload_n 1, 1) := by decide +kernel
theorem own_dsq_15 : decode jdk_42_method_66_code 15 = .ok (.checkcast 10, 3) := by decide +kernel
theorem own_dsq_18 : decode jdk_42_method_66_code 18 = .ok (.astore_n 2, 1) := by decide +kernel
theorem own_dsq_19 : decode jdk_42_method_66_code 19 = .ok (.getstatic 38, 3) := by decide +kernel
theorem own_dsq_22 : decode jdk_42_method_66_code 22 = .ok (.ifCond .eq 14, 3) := by decide +kernel
theorem own_dsq_25 : decode jdk_42_method_66_code 25 = .ok (.aload_n 0, 1) := by decide +kernel
theorem own_dsq_26 : decode jdk_42_method_66_code 26 = .ok (.getfield 15, 3) := by decide +kernel
theorem own_dsq_29 : decode jdk_42_method_66_code 29 = .ok (.aload_n 2, 1) := by decide +kernel
theorem own_dsq_30 : decode jdk_42_method_66_code 30 = .ok (.getfield 15, 3) := by decide +kernel
theorem own_dsq_33 : decode jdk_42_method_66_code 33 = .ok (.if_icmp .ne 21, 3) := by decide +kernel
theorem own_dsq_36 : decode jdk_42_method_66_code 36 = .ok (.aload_n 0, 1) := by decide +kernel
theorem own_dsq_37 : decode jdk_42_method_66_code 37 = .ok (.getfield 9, 3) := by decide +kernel
theorem own_dsq_40 : decode jdk_42_method_66_code 40 = .ok (.aload_n 2, 1) := by decide +kernel
theorem own_dsq_41 : decode jdk_42_method_66_code 41 = .ok (.getfield 9, 3) := by decide +kernel
theorem own_dsq_44 : decode jdk_42_method_66_code 44 = .ok (.invokestatic 541, 3) := by decide +kernel
theorem own_pd_B_B_Z_485 : parseMethodDescriptor "([B[B)Z" = some ⟨[(.array .byte), (.array .byte)], some .boolean⟩ := by decide +kernel
theorem own_dsq_47 : decode jdk_42_method_66_code 47 = .ok (.ifCond .eq 7, 3) := by decide +kernel
theorem own_dsq_54 : decode jdk_42_method_66_code 54 = .ok (.iconst 0, 1) := by decide +kernel
theorem own_dsq_55 : decode jdk_42_method_66_code 55 = .ok (.ireturn, 1) := by decide +kernel
theorem own_dsq_50 : decode jdk_42_method_66_code 50 = .ok (.iconst 1, 1) := by decide +kernel
theorem own_dsq_51 : decode jdk_42_method_66_code 51 = .ok (.goto 4, 3) := by decide +kernel
theorem own_efsq (m : MethodId) (o0 : Addr) (o1 : Addr) : entryFrame m #[(.ref o0), (.ref o1)] 3 = mkF m 0 #[.val (.ref o0), .val (.ref o1), .unset] [] := by first | (simp [entryFrame, mkF, argsToLocals, Value.category]; done) | rfl
def own_fsq (xs : List Int32) (ys : List Int32) (s_String_COMPACT_STRINGS : Int32) : Int32 := (if (own_feqm xs ys) = (0 : Int32) then (0 : Int32) else (1 : Int32))
set_option maxRecDepth 65536 in
set_option maxHeartbeats 40000000 in
theorem own_msq (l : Launch) (Z : State) (a0 : Array Value) (hw : ∀ d ∈ tables_1, d.before a0 Z = true) (ws : List Jvm.Cond) (o0 : Addr) (o1 : Addr) (xs : List Int32) (ys : List Int32) (w_o0_value : Addr) (w_o1_value : Addr) (s_String_COMPACT_STRINGS : Int32) (h0 : Heap) (n0 : Nat) (Z0 : n0 ≤ h0.size) (E_o0 : Exa Z h0 o0 "java/lang/String") (E_o1 : Exa Z h0 o1 "java/lang/String") (F_o0_value : Fld Z h0 o0 "java/lang/String" "value" "[B" (.ref w_o0_value)) (F_o0_coder : Fld Z h0 o0 "java/lang/String" "coder" "B" (.int (0 : Int32))) (F_o1_value : Fld Z h0 o1 "java/lang/String" "value" "[B" (.ref w_o1_value)) (F_o1_coder : Fld Z h0 o1 "java/lang/String" "coder" "B" (.int (0 : Int32))) (S_String_COMPACT_STRINGS : Sta Z h0 "java/lang/String" "COMPACT_STRINGS" "Z" (.int s_String_COMPACT_STRINGS)) (A_w_o0_value : own_BA Z h0 w_o0_value xs) (A_w_o1_value : own_BA Z h0 w_o1_value ys) (ne_o0_o1 : o0 ≠ o1) (hnz : ¬ (s_String_COMPACT_STRINGS = (0 : Int32))) (hlx : xs.length ≤ 3) (hly : ys.length ≤ 3) :
    own_Met l Z (⟨"java/lang/String", "equals", "(Ljava/lang/Object;)Z"⟩ : MethodName) jdk_42_method_66_code 3 (some .boolean) ws ({ frames := 1, cells := 0, slots := 0, locals := 14 } : Room) #[(.ref o0), (.ref o1)] h0 (fun (v : Option Value) (h : Heap) (L : List Loc) => v = some (.int (own_fsq xs ys s_String_COMPACT_STRINGS)) ∧ Fr n0 L ∧ h = h0) := by
  refine own_enter (plainFor_of_name own_pn_java_lang_String) ?_
  intro p e s m below meth c s₁ P hx hby hml hrt hlk hown hnm hZ X0 e0 hP
  have N0 := Fr.nil n0
  have K0 := Keep.refl h0 []
  have hml' : c.maxLocals = 3 := hml
  refine own_cast (own_efsq m o0 o1) ?_
  show own_End p e below P (s₁.setTop (mkF m 0 #[.val (.ref o0), .val (.ref o1), .unset] []))
  refine own_st (fun _ => XS.aloadN X0.here hx rfl (hb hby own_dsq_0) rfl rfl) ?_
  show own_End p e below P (s₁.setTop (mkF m 1 #[.val (.ref o0), .val (.ref o1), .unset] [(.ref o0)]))
  refine own_st (fun _ => XS.aloadN X0.here hx rfl (hb hby own_dsq_1) rfl rfl) ?_
  show own_End p e below P (s₁.setTop (mkF m 2 #[.val (.ref o0), .val (.ref o1), .unset] [(.ref o1), (.ref o0)]))
  refine own_st (fun _ => Jvm.RoadKit.acmp (g := (mkF m 2 #[.val (.ref o0), .val (.ref o1), .unset] [(.ref o1), (.ref o0)])) X0 hx rfl rfl rfl (pc0 := 2) (pc' := 7) (same := false) rfl (hb hby own_dsq_2) rfl (decide_eq_false fun q => ne_o0_o1 (Value.ref.inj q)) (by decide) (by decide)) ?_
  show own_End p e below P (s₁.setTop (mkF m 7 #[.val (.ref o0), .val (.ref o1), .unset] []))
  refine own_st (fun _ => XS.aloadN X0.here hx rfl (hb hby own_dsq_7) rfl rfl) ?_
  show own_End p e below P (s₁.setTop (mkF m 8 #[.val (.ref o0), .val (.ref o1), .unset] [(.ref o1)]))
  obtain ⟨T1, X1, e1, st1⟩ := instY X0 hx hZ hown (hw _ (List.mem_of_getElem? (i := 72) rfl)) e0 (Ins.self E_o1) (g := (mkF m 8 #[.val (.ref o0), .val (.ref o1), .unset] [(.ref o1)])) rfl rfl (hb hby own_dsq_8)
  refine own_st (fun _ => st1 _) ?_
  show own_End p e below P (T1.setTop (mkF m 11 #[.val (.ref o0), .val (.ref o1), .unset] [(.int (1 : Int32))]))
  refine own_st (fun _ => XS.ifNo X1.here hx rfl (hb hby own_dsq_11) rfl ((if0 _ _).trans (feq (by decide : ¬ ((1 : Int32) = (0 : Int32)))).1)) ?_
  show own_End p e below P (T1.setTop (mkF m 14 #[.val (.ref o0), .val (.ref o1), .unset] []))
  refine own_st (fun _ => XS.aloadN X1.here hx rfl (hb hby own_dsq_14) rfl rfl) ?_
  show own_End p e below P (T1.setTop (mkF m 15 #[.val (.ref o0), .val (.ref o1), .unset] [(.ref o1)]))
  obtain ⟨T2, X2, e2, st2⟩ := castY X1 hx hZ hown (hw _ (List.mem_of_getElem? (i := 72) rfl)) e1 (Ins.self E_o1) (g := (mkF m 15 #[.val (.ref o0), .val (.ref o1), .unset] [(.ref o1)])) rfl rfl (hb hby own_dsq_15)
  refine own_st (fun _ => st2 _) ?_
  show own_End p e below P (T2.setTop (mkF m 18 #[.val (.ref o0), .val (.ref o1), .unset] [(.ref o1)]))
  refine own_st (fun _ => XS.astoreN X2.here hx rfl (hb hby own_dsq_18) rfl rfl (l' := #[.val (.ref o0), .val (.ref o1), .val (.ref o1)]) rfl) ?_
  show own_End p e below P (T2.setTop (mkF m 19 #[.val (.ref o0), .val (.ref o1), .val (.ref o1)] []))
  obtain ⟨T3, X3, e3, st3⟩ := getS2 X2 hx hZ hown (host := "") (Or.inl (hw _ (List.mem_of_getElem? (i := 26) rfl))) Via.refl e2 S_String_COMPACT_STRINGS (g := (mkF m 19 #[.val (.ref o0), .val (.ref o1), .val (.ref o1)] [])) rfl (hb hby own_dsq_19)
  refine own_st (fun _ => st3 _) ?_
  show own_End p e below P (T3.setTop (mkF m 22 #[.val (.ref o0), .val (.ref o1), .val (.ref o1)] [(.int s_String_COMPACT_STRINGS)]))
  refine own_st (fun _ => XS.ifNo X3.here hx rfl (hb hby own_dsq_22) rfl ((if0 _ _).trans (feq hnz).1)) ?_
  show own_End p e below P (T3.setTop (mkF m 25 #[.val (.ref o0), .val (.ref o1), .val (.ref o1)] []))
  refine own_st (fun _ => XS.aloadN X3.here hx rfl (hb hby own_dsq_25) rfl rfl) ?_
  show own_End p e below P (T3.setTop (mkF m 26 #[.val (.ref o0), .val (.ref o1), .val (.ref o1)] [(.ref o0)]))
  obtain ⟨T4, X4, e4, st4⟩ := getF X3 hx hZ hown (host := "") (Or.inl (hw _ (List.mem_of_getElem? (i := 25) rfl))) Via.refl e3 F_o0_coder (g := (mkF m 26 #[.val (.ref o0), .val (.ref o1), .val (.ref o1)] [(.ref o0)])) rfl rfl (hb hby own_dsq_26)
  refine own_st (fun _ => st4 _) ?_
  show own_End p e below P (T4.setTop (mkF m 29 #[.val (.ref o0), .val (.ref o1), .val (.ref o1)] [(.int (0 : Int32))]))
  refine own_st (fun _ => XS.aloadN X4.here hx rfl (hb hby own_dsq_29) rfl rfl) ?_
  show own_End p e below P (T4.setTop (mkF m 30 #[.val (.ref o0), .val (.ref o1), .val (.ref o1)] [(.ref o1), (.int (0 : Int32))]))
  obtain ⟨T5, X5, e5, st5⟩ := getF X4 hx hZ hown (host := "") (Or.inl (hw _ (List.mem_of_getElem? (i := 25) rfl))) Via.refl e4 F_o1_coder (g := (mkF m 30 #[.val (.ref o0), .val (.ref o1), .val (.ref o1)] [(.ref o1), (.int (0 : Int32))])) rfl rfl (hb hby own_dsq_30)
  refine own_st (fun _ => st5 _) ?_
  show own_End p e below P (T5.setTop (mkF m 33 #[.val (.ref o0), .val (.ref o1), .val (.ref o1)] [(.int (0 : Int32)), (.int (0 : Int32))]))
  refine own_st (fun _ => XS.icmpNo X5.here hx rfl (hb hby own_dsq_33) rfl (teq (by decide : (0 : Int32) = (0 : Int32))).2) ?_
  show own_End p e below P (T5.setTop (mkF m 36 #[.val (.ref o0), .val (.ref o1), .val (.ref o1)] []))
  refine own_st (fun _ => XS.aloadN X5.here hx rfl (hb hby own_dsq_36) rfl rfl) ?_
  show own_End p e below P (T5.setTop (mkF m 37 #[.val (.ref o0), .val (.ref o1), .val (.ref o1)] [(.ref o0)]))
  obtain ⟨T6, X6, e6, st6⟩ := getF X5 hx hZ hown (host := "") (Or.inl (hw _ (List.mem_of_getElem? (i := 24) rfl))) Via.refl e5 F_o0_value (g := (mkF m 37 #[.val (.ref o0), .val (.ref o1), .val (.ref o1)] [(.ref o0)])) rfl rfl (hb hby own_dsq_37)
  refine own_st (fun _ => st6 _) ?_
  show own_End p e below P (T6.setTop (mkF m 40 #[.val (.ref o0), .val (.ref o1), .val (.ref o1)] [(.ref w_o0_value)]))
  refine own_st (fun _ => XS.aloadN X6.here hx rfl (hb hby own_dsq_40) rfl rfl) ?_
  show own_End p e below P (T6.setTop (mkF m 41 #[.val (.ref o0), .val (.ref o1), .val (.ref o1)] [(.ref o1), (.ref w_o0_value)]))
  obtain ⟨T7, X7, e7, st7⟩ := getF X6 hx hZ hown (host := "") (Or.inl (hw _ (List.mem_of_getElem? (i := 24) rfl))) Via.refl e6 F_o1_value (g := (mkF m 41 #[.val (.ref o0), .val (.ref o1), .val (.ref o1)] [(.ref o1), (.ref w_o0_value)])) rfl rfl (hb hby own_dsq_41)
  refine own_st (fun _ => st7 _) ?_
  show own_End p e below P (T7.setTop (mkF m 44 #[.val (.ref o0), .val (.ref o1), .val (.ref o1)] [(.ref w_o1_value), (.ref w_o0_value)]))
  refine own_callS X7 hx hZ (y := (⟨"java/lang/StringLatin1", "equals", "([B[B)Z"⟩ : MethodName)) hown (hw _ (List.mem_of_getElem? (i := 73) rfl)) (hw _ (List.mem_of_getElem? (i := 74) rfl)) (hw _ (List.mem_of_getElem? (i := 75) rfl)) (hw _ (List.mem_of_getElem? (i := 76) rfl)) (by decide) (own_meqm l Z a0 hw [] w_o0_value w_o1_value xs ys h0 n0 (Nat.le_trans Z0 K0.1) A_w_o0_value A_w_o1_value hlx hly) 0 (by decide) (by decide) e7 (by decide) (by decide) (g := (mkF m 44 #[.val (.ref o0), .val (.ref o1), .val (.ref o1)] [(.ref w_o1_value), (.ref w_o0_value)])) rfl (by rw [hml']; rfl) (argsL := [(.ref w_o0_value), (.ref w_o1_value)]) (rest := []) rfl (lenOf own_pd_B_B_Z_485 rfl) rfl (by show 2 * 0 + _ ≤ _; exact Nat.le_of_eq rfl) (hb hby own_dsq_44) (fun r8 T8 L8 X8 hQ8 => ?_)
  obtain ⟨rfl, Nq8, eq8⟩ := hQ8
  have N8 := Fr.app N0 Nq8
  show own_End p e below P (T8.setTop (mkF m 47 #[.val (.ref o0), .val (.ref o1), .val (.ref o1)] [(.int (own_feqm xs ys))]))
  by_cases hc9 : (own_feqm xs ys) = (0 : Int32)
  · refine own_st (fun _ => XS.ifYes X8.here hx rfl (pc0 := 47) (pc' := 54) rfl (hb hby own_dsq_47) rfl ((if0 _ _).trans (teq hc9).1) (by decide) (by decide)) ?_
    show own_End p e below P (T8.setTop (mkF m 54 #[.val (.ref o0), .val (.ref o1), .val (.ref o1)] []))
    refine own_st (fun _ => XS.iconst X8.here hx rfl (hb hby own_dsq_54)) ?_
    show own_End p e below P (T8.setTop (mkF m 55 #[.val (.ref o0), .val (.ref o1), .val (.ref o1)] [(.int (0 : Int32))]))
    refine own_retN X8 hx hlk hP (t := .boolean) (by simp) hrt (hb hby own_dsq_55) (by decide) (by decide) ⟨congrArg (fun z => some (Value.int z)) ?_, N8, eq8⟩
    exact (show own_fsq xs ys s_String_COMPACT_STRINGS = (0 : Int32) from (if_pos hc9).trans (rfl)).symm
  · refine own_st (fun _ => XS.ifNo X8.here hx rfl (hb hby own_dsq_47) rfl ((if0 _ _).trans (feq hc9).1)) ?_
    show own_End p e below P (T8.setTop (mkF m 50 #[.val (.ref o0), .val (.ref o1), .val (.ref o1)] []))
    refine own_st (fun _ => XS.iconst X8.here hx rfl (hb hby own_dsq_50)) ?_
    show own_End p e below P (T8.setTop (mkF m 51 #[.val (.ref o0), .val (.ref o1), .val (.ref o1)] [(.int (1 : Int32))]))
    refine own_st (fun _ => XS.goto X8.here hx rfl (pc0 := 51) (pc' := 55) rfl (hb hby own_dsq_51) (by decide) (by decide)) ?_
    show own_End p e below P (T8.setTop (mkF m 55 #[.val (.ref o0), .val (.ref o1), .val (.ref o1)] [(.int (1 : Int32))]))
    refine own_retN X8 hx hlk hP (t := .boolean) (by simp) hrt (hb hby own_dsq_55) (by decide) (by decide) ⟨congrArg (fun z => some (Value.int z)) ?_, N8, eq8⟩
    exact (show own_fsq xs ys s_String_COMPACT_STRINGS = (1 : Int32) from (if_neg hc9).trans (rfl)).symm
theorem own_dren_0 : decode prog_34_method_7_code 0 = .ok (.aload_n 1, 1) := by decide +kernel
theorem own_dren_1 : decode prog_34_method_7_code 1 = .ok (.instanceof 8, 3) := by decide +kernel
theorem own_dren_4 : decode prog_34_method_7_code 4 = .ok (.ifCond .eq 51, 3) := by decide +kernel
theorem own_dren_55 : decode prog_34_method_7_code 55 = .ok (.iconst 0, 1) := by decide +kernel
theorem own_dren_56 : decode prog_34_method_7_code 56 = .ok (.ireturn, 1) := by decide +kernel
theorem own_efren (m : MethodId) (o0 : Addr) : entryFrame m #[(.ref o0), .null] 3 = mkF m 0 #[.val (.ref o0), .val .null, .unset] [] := by first | (simp [entryFrame, mkF, argsToLocals, Value.category]; done) | rfl
def own_fren  : Int32 := (0 : Int32)
theorem own_pn_com_example_holdfast_holdfast_internal_Route : plainName "com/example/holdfast/holdfast/internal/Route" = true := by first | (simp [plainName, overriddenIn]; done) | decide +kernel
set_option maxRecDepth 65536 in
set_option maxHeartbeats 40000000 in
theorem own_mren (l : Launch) (Z : State) (a0 : Array Value) (hw : ∀ d ∈ tables_1, d.before a0 Z = true) (ws : List Jvm.Cond) (o0 : Addr)  (h0 : Heap) (n0 : Nat) (Z0 : n0 ≤ h0.size)  :
    own_Met l Z (⟨"com/example/holdfast/holdfast/internal/Route", "equals", "(Ljava/lang/Object;)Z"⟩ : MethodName) prog_34_method_7_code 3 (some .boolean) ws ({ frames := 0, cells := 0, slots := 0, locals := 0 } : Room) #[(.ref o0), .null] h0 (fun (v : Option Value) (h : Heap) (L : List Loc) => v = some (.int (own_fren )) ∧ Fr n0 L ∧ h = h0) := by
  refine own_enter (plainFor_of_name own_pn_com_example_holdfast_holdfast_internal_Route) ?_
  intro p e s m below meth c s₁ P hx hby hml hrt hlk hown hnm hZ X0 e0 hP
  have N0 := Fr.nil n0
  have K0 := Keep.refl h0 []
  have hml' : c.maxLocals = 3 := hml
  refine own_cast (own_efren m o0) ?_
  show own_End p e below P (s₁.setTop (mkF m 0 #[.val (.ref o0), .val .null, .unset] []))
  refine own_st (fun _ => XS.aloadN X0.here hx rfl (hb hby own_dren_0) rfl rfl) ?_
  show own_End p e below P (s₁.setTop (mkF m 1 #[.val (.ref o0), .val .null, .unset] [.null]))
  refine own_st (fun _ => Jvm.Stand.instanceofNull X0 hx (g := (mkF m 1 #[.val (.ref o0), .val .null, .unset] [.null])) rfl rfl (hb hby own_dren_1) _) ?_
  show own_End p e below P (s₁.setTop (mkF m 4 #[.val (.ref o0), .val .null, .unset] [(.int (0 : Int32))]))
  refine own_st (fun _ => XS.ifYes X0.here hx rfl (pc0 := 4) (pc' := 55) rfl (hb hby own_dren_4) rfl ((if0 _ _).trans (teq (by decide : (0 : Int32) = (0 : Int32))).1) (by decide) (by decide)) ?_
  show own_End p e below P (s₁.setTop (mkF m 55 #[.val (.ref o0), .val .null, .unset] []))
  refine own_st (fun _ => XS.iconst X0.here hx rfl (hb hby own_dren_55)) ?_
  show own_End p e below P (s₁.setTop (mkF m 56 #[.val (.ref o0), .val .null, .unset] [(.int (0 : Int32))]))
  refine own_retN X0 hx hlk hP (t := .boolean) (by simp) hrt (hb hby own_dren_56) (by decide) (by decide) ⟨congrArg (fun z => some (Value.int z)) ?_, N0, e0⟩
  exact (show own_fren  = (0 : Int32) from rfl).symm
theorem own_dreo_0 : decode prog_34_method_7_code 0 = .ok (.aload_n 1, 1) := by decide +kernel
theorem own_dreo_1 : decode prog_34_method_7_code 1 = .ok (.instanceof 8, 3) := by decide +kernel
theorem own_dreo_4 : decode prog_34_method_7_code 4 = .ok (.ifCond .eq 51, 3) := by decide +kernel
theorem own_dreo_55 : decode prog_34_method_7_code 55 = .ok (.iconst 0, 1) := by decide +kernel
theorem own_dreo_56 : decode prog_34_method_7_code 56 = .ok (.ireturn, 1) := by decide +kernel
theorem own_efreo (m : MethodId) (o0 : Addr) (o1 : Addr) : entryFrame m #[(.ref o0), (.ref o1)] 3 = mkF m 0 #[.val (.ref o0), .val (.ref o1), .unset] [] := by first | (simp [entryFrame, mkF, argsToLocals, Value.category]; done) | rfl
def own_freo  : Int32 := (0 : Int32)
set_option maxRecDepth 65536 in
set_option maxHeartbeats 40000000 in
theorem own_mreo (l : Launch) (Z : State) (a0 : Array Value) (hw : ∀ d ∈ tables_1, d.before a0 Z = true) (ws : List Jvm.Cond) (o0 : Addr) (o1 : Addr)  (h0 : Heap) (n0 : Nat) (Z0 : n0 ≤ h0.size) (E_o1 : Exa Z h0 o1 "java/lang/String") :
    own_Met l Z (⟨"com/example/holdfast/holdfast/internal/Route", "equals", "(Ljava/lang/Object;)Z"⟩ : MethodName) prog_34_method_7_code 3 (some .boolean) ws ({ frames := 0, cells := 0, slots := 0, locals := 0 } : Room) #[(.ref o0), (.ref o1)] h0 (fun (v : Option Value) (h : Heap) (L : List Loc) => v = some (.int (own_freo )) ∧ Fr n0 L ∧ h = h0) := by
  refine own_enter (plainFor_of_name own_pn_com_example_holdfast_holdfast_internal_Route) ?_
  intro p e s m below meth c s₁ P hx hby hml hrt hlk hown hnm hZ X0 e0 hP
  have N0 := Fr.nil n0
  have K0 := Keep.refl h0 []
  have hml' : c.maxLocals = 3 := hml
  refine own_cast (own_efreo m o0 o1) ?_
  show own_End p e below P (s₁.setTop (mkF m 0 #[.val (.ref o0), .val (.ref o1), .unset] []))
  refine own_st (fun _ => XS.aloadN X0.here hx rfl (hb hby own_dreo_0) rfl rfl) ?_
  show own_End p e below P (s₁.setTop (mkF m 1 #[.val (.ref o0), .val (.ref o1), .unset] [(.ref o1)]))
  obtain ⟨T1, X1, e1, st1⟩ := instNo X0 hx hZ hown (hw _ (List.mem_of_getElem? (i := 63) rfl)) e0 E_o1 (own_notInst (hw _ (List.mem_of_getElem? (i := 70) rfl)) (hw _ (List.mem_of_getElem? (i := 71) rfl)) (hw _ (List.mem_of_getElem? (i := 38) rfl)) (by decide) (by decide)) (g := (mkF m 1 #[.val (.ref o0), .val (.ref o1), .unset] [(.ref o1)])) rfl rfl (hb hby own_dreo_1)
  refine own_st (fun _ => st1 _) ?_
  show own_End p e below P (T1.setTop (mkF m 4 #[.val (.ref o0), .val (.ref o1), .unset] [(.int (0 : Int32))]))
  refine own_st (fun _ => XS.ifYes X1.here hx rfl (pc0 := 4) (pc' := 55) rfl (hb hby own_dreo_4) rfl ((if0 _ _).trans (teq (by decide : (0 : Int32) = (0 : Int32))).1) (by decide) (by decide)) ?_
  show own_End p e below P (T1.setTop (mkF m 55 #[.val (.ref o0), .val (.ref o1), .unset] []))
  refine own_st (fun _ => XS.iconst X1.here hx rfl (hb hby own_dreo_55)) ?_
  show own_End p e below P (T1.setTop (mkF m 56 #[.val (.ref o0), .val (.ref o1), .unset] [(.int (0 : Int32))]))
  refine own_retN X1 hx hlk hP (t := .boolean) (by simp) hrt (hb hby own_dreo_56) (by decide) (by decide) ⟨congrArg (fun z => some (Value.int z)) ?_, N0, e1⟩
  exact (show own_freo  = (0 : Int32) from rfl).symm
theorem own_dres_0 : decode prog_34_method_7_code 0 = .ok (.aload_n 1, 1) := by decide +kernel
theorem own_dres_1 : decode prog_34_method_7_code 1 = .ok (.instanceof 8, 3) := by decide +kernel
theorem own_dres_4 : decode prog_34_method_7_code 4 = .ok (.ifCond .eq 51, 3) := by decide +kernel
theorem own_dres_7 : decode prog_34_method_7_code 7 = .ok (.aload_n 1, 1) := by decide +kernel
theorem own_dres_8 : decode prog_34_method_7_code 8 = .ok (.checkcast 8, 3) := by decide +kernel
theorem own_dres_11 : decode prog_34_method_7_code 11 = .ok (.astore_n 2, 1) := by decide +kernel
theorem own_dres_12 : decode prog_34_method_7_code 12 = .ok (.aload_n 0, 1) := by decide +kernel
theorem own_dres_13 : decode prog_34_method_7_code 13 = .ok (.getfield 16, 3) := by decide +kernel
theorem own_dres_16 : decode prog_34_method_7_code 16 = .ok (.aload_n 2, 1) := by decide +kernel
theorem own_dres_17 : decode prog_34_method_7_code 17 = .ok (.getfield 16, 3) := by decide +kernel
theorem own_dres_20 : decode prog_34_method_7_code 20 = .ok (.if_icmp .ne 35, 3) := by decide +kernel
theorem own_dres_23 : decode prog_34_method_7_code 23 = .ok (.aload_n 0, 1) := by decide +kernel
theorem own_dres_24 : decode prog_34_method_7_code 24 = .ok (.getfield 13, 3) := by decide +kernel
theorem own_dres_27 : decode prog_34_method_7_code 27 = .ok (.aload_n 2, 1) := by decide +kernel
theorem own_dres_28 : decode prog_34_method_7_code 28 = .ok (.getfield 13, 3) := by decide +kernel
theorem own_dres_31 : decode prog_34_method_7_code 31 = .ok (.invokevirtual 47, 3) := by decide +kernel
theorem own_pd_Ljava_lang_Object__Z_838 : parseMethodDescriptor "(Ljava/lang/Object;)Z" = some ⟨[(.object "java/lang/Object")], some .boolean⟩ := by decide +kernel
theorem own_dres_34 : decode prog_34_method_7_code 34 = .ok (.ifCond .eq 21, 3) := by decide +kernel
theorem own_dres_37 : decode prog_34_method_7_code 37 = .ok (.aload_n 0, 1) := by decide +kernel
theorem own_dres_38 : decode prog_34_method_7_code 38 = .ok (.getfield 7, 3) := by decide +kernel
theorem own_dres_41 : decode prog_34_method_7_code 41 = .ok (.aload_n 2, 1) := by decide +kernel
theorem own_dres_42 : decode prog_34_method_7_code 42 = .ok (.getfield 7, 3) := by decide +kernel
theorem own_dres_45 : decode prog_34_method_7_code 45 = .ok (.invokevirtual 47, 3) := by decide +kernel
theorem own_dres_48 : decode prog_34_method_7_code 48 = .ok (.ifCond .eq 7, 3) := by decide +kernel
theorem own_dres_51 : decode prog_34_method_7_code 51 = .ok (.iconst 1, 1) := by decide +kernel
theorem own_dres_52 : decode prog_34_method_7_code 52 = .ok (.goto 4, 3) := by decide +kernel
theorem own_dres_56 : decode prog_34_method_7_code 56 = .ok (.ireturn, 1) := by decide +kernel
theorem own_efres (m : MethodId) (o0 : Addr) : entryFrame m #[(.ref o0), (.ref o0)] 3 = mkF m 0 #[.val (.ref o0), .val (.ref o0), .unset] [] := by first | (simp [entryFrame, mkF, argsToLocals, Value.category]; done) | rfl
def own_fres (w_o0_port : Int32) : Int32 := (1 : Int32)
set_option maxRecDepth 65536 in
set_option maxHeartbeats 40000000 in
theorem own_mres (l : Launch) (Z : State) (a0 : Array Value) (hw : ∀ d ∈ tables_1, d.before a0 Z = true) (ws : List Jvm.Cond) (o0 : Addr) (w_o0_port : Int32) (w_o0_host : Addr) (w_o0_scheme : Addr) (h0 : Heap) (n0 : Nat) (Z0 : n0 ≤ h0.size) (E_o0 : Exa Z h0 o0 "com/example/holdfast/holdfast/internal/Route") (E_w_o0_host : Exa Z h0 w_o0_host "java/lang/String") (E_w_o0_scheme : Exa Z h0 w_o0_scheme "java/lang/String") (F_o0_port : Fld Z h0 o0 "com/example/holdfast/holdfast/internal/Route" "port" "I" (.int w_o0_port)) (F_o0_host : Fld Z h0 o0 "com/example/holdfast/holdfast/internal/Route" "host" "Ljava/lang/String;" (.ref w_o0_host)) (F_o0_scheme : Fld Z h0 o0 "com/example/holdfast/holdfast/internal/Route" "scheme" "Ljava/lang/String;" (.ref w_o0_scheme)) :
    own_Met l Z (⟨"com/example/holdfast/holdfast/internal/Route", "equals", "(Ljava/lang/Object;)Z"⟩ : MethodName) prog_34_method_7_code 3 (some .boolean) ws ({ frames := 1, cells := 0, slots := 0, locals := 14 } : Room) #[(.ref o0), (.ref o0)] h0 (fun (v : Option Value) (h : Heap) (L : List Loc) => v = some (.int (own_fres w_o0_port)) ∧ Fr n0 L ∧ h = h0) := by
  refine own_enter (plainFor_of_name own_pn_com_example_holdfast_holdfast_internal_Route) ?_
  intro p e s m below meth c s₁ P hx hby hml hrt hlk hown hnm hZ X0 e0 hP
  have N0 := Fr.nil n0
  have K0 := Keep.refl h0 []
  have hml' : c.maxLocals = 3 := hml
  refine own_cast (own_efres m o0) ?_
  show own_End p e below P (s₁.setTop (mkF m 0 #[.val (.ref o0), .val (.ref o0), .unset] []))
  refine own_st (fun _ => XS.aloadN X0.here hx rfl (hb hby own_dres_0) rfl rfl) ?_
  show own_End p e below P (s₁.setTop (mkF m 1 #[.val (.ref o0), .val (.ref o0), .unset] [(.ref o0)]))
  obtain ⟨T1, X1, e1, st1⟩ := instY X0 hx hZ hown (hw _ (List.mem_of_getElem? (i := 63) rfl)) e0 (Ins.self E_o0) (g := (mkF m 1 #[.val (.ref o0), .val (.ref o0), .unset] [(.ref o0)])) rfl rfl (hb hby own_dres_1)
  refine own_st (fun _ => st1 _) ?_
  show own_End p e below P (T1.setTop (mkF m 4 #[.val (.ref o0), .val (.ref o0), .unset] [(.int (1 : Int32))]))
  refine own_st (fun _ => XS.ifNo X1.here hx rfl (hb hby own_dres_4) rfl ((if0 _ _).trans (feq (by decide : ¬ ((1 : Int32) = (0 : Int32)))).1)) ?_
  show own_End p e below P (T1.setTop (mkF m 7 #[.val (.ref o0), .val (.ref o0), .unset] []))
  refine own_st (fun _ => XS.aloadN X1.here hx rfl (hb hby own_dres_7) rfl rfl) ?_
  show own_End p e below P (T1.setTop (mkF m 8 #[.val (.ref o0), .val (.ref o0), .unset] [(.ref o0)]))
  obtain ⟨T2, X2, e2, st2⟩ := castY X1 hx hZ hown (hw _ (List.mem_of_getElem? (i := 63) rfl)) e1 (Ins.self E_o0) (g := (mkF m 8 #[.val (.ref o0), .val (.ref o0), .unset] [(.ref o0)])) rfl rfl (hb hby own_dres_8)
  refine own_st (fun _ => st2 _) ?_
  show own_End p e below P (T2.setTop (mkF m 11 #[.val (.ref o0), .val (.ref o0), .unset] [(.ref o0)]))
  refine own_st (fun _ => XS.astoreN X2.here hx rfl (hb hby own_dres_11) rfl rfl (l' := #[.val (.ref o0), .val (.ref o0), .val (.ref o0)]) rfl) ?_
  show own_End p e below P (T2.setTop (mkF m 12 #[.val (.ref o0), .val (.ref o0), .val (.ref o0)] []))
  refine own_st (fun _ => XS.aloadN X2.here hx rfl (hb hby own_dres_12) rfl rfl) ?_
  show own_End p e below P (T2.setTop (mkF m 13 #[.val (.ref o0), .val (.ref o0), .val (.ref o0)] [(.ref o0)]))
  obtain ⟨T3, X3, e3, st3⟩ := getF X2 hx hZ hown (host := "") (Or.inl (hw _ (List.mem_of_getElem? (i := 53) rfl))) Via.refl e2 F_o0_port (g := (mkF m 13 #[.val (.ref o0), .val (.ref o0), .val (.ref o0)] [(.ref o0)])) rfl rfl (hb hby own_dres_13)
  refine own_st (fun _ => st3 _) ?_
  show own_End p e below P (T3.setTop (mkF m 16 #[.val (.ref o0), .val (.ref o0), .val (.ref o0)] [(.int w_o0_port)]))
  refine own_st (fun _ => XS.aloadN X3.here hx rfl (hb hby own_dres_16) rfl rfl) ?_
  show own_End p e below P (T3.setTop (mkF m 17 #[.val (.ref o0), .val (.ref o0), .val (.ref o0)] [(.ref o0), (.int w_o0_port)]))
  obtain ⟨T4, X4, e4, st4⟩ := getF X3 hx hZ hown (host := "") (Or.inl (hw _ (List.mem_of_getElem? (i := 53) rfl))) Via.refl e3 F_o0_port (g := (mkF m 17 #[.val (.ref o0), .val (.ref o0), .val (.ref o0)] [(.ref o0), (.int w_o0_port)])) rfl rfl (hb hby own_dres_17)
  refine own_st (fun _ => st4 _) ?_
  show own_End p e below P (T4.setTop (mkF m 20 #[.val (.ref o0), .val (.ref o0), .val (.ref o0)] [(.int w_o0_port), (.int w_o0_port)]))
  refine own_st (fun _ => XS.icmpNo X4.here hx rfl (hb hby own_dres_20) rfl (teq (rfl : w_o0_port = w_o0_port)).2) ?_
  show own_End p e below P (T4.setTop (mkF m 23 #[.val (.ref o0), .val (.ref o0), .val (.ref o0)] []))
  refine own_st (fun _ => XS.aloadN X4.here hx rfl (hb hby own_dres_23) rfl rfl) ?_
  show own_End p e below P (T4.setTop (mkF m 24 #[.val (.ref o0), .val (.ref o0), .val (.ref o0)] [(.ref o0)]))
  obtain ⟨T5, X5, e5, st5⟩ := getF X4 hx hZ hown (host := "") (Or.inl (hw _ (List.mem_of_getElem? (i := 51) rfl))) Via.refl e4 F_o0_host (g := (mkF m 24 #[.val (.ref o0), .val (.ref o0), .val (.ref o0)] [(.ref o0)])) rfl rfl (hb hby own_dres_24)
  refine own_st (fun _ => st5 _) ?_
  show own_End p e below P (T5.setTop (mkF m 27 #[.val (.ref o0), .val (.ref o0), .val (.ref o0)] [(.ref w_o0_host)]))
  refine own_st (fun _ => XS.aloadN X5.here hx rfl (hb hby own_dres_27) rfl rfl) ?_
  show own_End p e below P (T5.setTop (mkF m 28 #[.val (.ref o0), .val (.ref o0), .val (.ref o0)] [(.ref o0), (.ref w_o0_host)]))
  obtain ⟨T6, X6, e6, st6⟩ := getF X5 hx hZ hown (host := "") (Or.inl (hw _ (List.mem_of_getElem? (i := 51) rfl))) Via.refl e5 F_o0_host (g := (mkF m 28 #[.val (.ref o0), .val (.ref o0), .val (.ref o0)] [(.ref o0), (.ref w_o0_host)])) rfl rfl (hb hby own_dres_28)
  refine own_st (fun _ => st6 _) ?_
  show own_End p e below P (T6.setTop (mkF m 31 #[.val (.ref o0), .val (.ref o0), .val (.ref o0)] [(.ref w_o0_host), (.ref w_o0_host)]))
  refine own_callV X6 hx hZ (y := (⟨"java/lang/String", "equals", "(Ljava/lang/Object;)Z"⟩ : MethodName)) (z := (⟨"java/lang/String", "equals", "(Ljava/lang/Object;)Z"⟩ : MethodName)) hown (hw _ (List.mem_of_getElem? (i := 65) rfl)) (hw _ (List.mem_of_getElem? (i := 66) rfl)) (notFace_of_selects (args := #[]) (mvT hZ (hw _ (List.mem_of_getElem? (i := 68) rfl)))) (hw _ (List.mem_of_getElem? (i := 68) rfl)) (hw _ (List.mem_of_getElem? (i := 67) rfl)) (hw _ (List.mem_of_getElem? (i := 6) rfl)) (hw _ (List.mem_of_getElem? (i := 69) rfl)) (by decide) E_w_o0_host (own_msqs l Z a0 hw [] w_o0_host  h0 n0 (Nat.le_trans Z0 K0.1) ) 0 (by decide) (by decide) e6 (by decide) (by decide) (g := (mkF m 31 #[.val (.ref o0), .val (.ref o0), .val (.ref o0)] [(.ref w_o0_host), (.ref w_o0_host)])) rfl (by rw [hml']; rfl) (argsL := [(.ref w_o0_host)]) (rest := []) rfl (lenOf own_pd_Ljava_lang_Object__Z_838 rfl) rfl (by show 2 * 0 + _ ≤ _; exact Nat.le_of_eq rfl) (hb hby own_dres_31) (fun r7 T7 L7 X7 hQ7 => ?_)
  obtain ⟨rfl, Nq7, eq7⟩ := hQ7
  have N7 := Fr.app N0 Nq7
  show own_End p e below P (T7.setTop (mkF m 34 #[.val (.ref o0), .val (.ref o0), .val (.ref o0)] [(.int (1 : Int32))]))
  refine own_st (fun _ => XS.ifNo X7.here hx rfl (hb hby own_dres_34) rfl ((if0 _ _).trans (feq (by decide : ¬ ((1 : Int32) = (0 : Int32)))).1)) ?_
  show own_End p e below P (T7.setTop (mkF m 37 #[.val (.ref o0), .val (.ref o0), .val (.ref o0)] []))
  refine own_st (fun _ => XS.aloadN X7.here hx rfl (hb hby own_dres_37) rfl rfl) ?_
  show own_End p e below P (T7.setTop (mkF m 38 #[.val (.ref o0), .val (.ref o0), .val (.ref o0)] [(.ref o0)]))
  obtain ⟨T8, X8, e8, st8⟩ := getF X7 hx hZ hown (host := "") (Or.inl (hw _ (List.mem_of_getElem? (i := 49) rfl))) Via.refl eq7 F_o0_scheme (g := (mkF m 38 #[.val (.ref o0), .val (.ref o0), .val (.ref o0)] [(.ref o0)])) rfl rfl (hb hby own_dres_38)
  refine own_st (fun _ => st8 _) ?_
  show own_End p e below P (T8.setTop (mkF m 41 #[.val (.ref o0), .val (.ref o0), .val (.ref o0)] [(.ref w_o0_scheme)]))
  refine own_st (fun _ => XS.aloadN X8.here hx rfl (hb hby own_dres_41) rfl rfl) ?_
  show own_End p e below P (T8.setTop (mkF m 42 #[.val (.ref o0), .val (.ref o0), .val (.ref o0)] [(.ref o0), (.ref w_o0_scheme)]))
  obtain ⟨T9, X9, e9, st9⟩ := getF X8 hx hZ hown (host := "") (Or.inl (hw _ (List.mem_of_getElem? (i := 49) rfl))) Via.refl e8 F_o0_scheme (g := (mkF m 42 #[.val (.ref o0), .val (.ref o0), .val (.ref o0)] [(.ref o0), (.ref w_o0_scheme)])) rfl rfl (hb hby own_dres_42)
  refine own_st (fun _ => st9 _) ?_
  show own_End p e below P (T9.setTop (mkF m 45 #[.val (.ref o0), .val (.ref o0), .val (.ref o0)] [(.ref w_o0_scheme), (.ref w_o0_scheme)]))
  refine own_callV X9 hx hZ (y := (⟨"java/lang/String", "equals", "(Ljava/lang/Object;)Z"⟩ : MethodName)) (z := (⟨"java/lang/String", "equals", "(Ljava/lang/Object;)Z"⟩ : MethodName)) hown (hw _ (List.mem_of_getElem? (i := 65) rfl)) (hw _ (List.mem_of_getElem? (i := 66) rfl)) (notFace_of_selects (args := #[]) (mvT hZ (hw _ (List.mem_of_getElem? (i := 68) rfl)))) (hw _ (List.mem_of_getElem? (i := 68) rfl)) (hw _ (List.mem_of_getElem? (i := 67) rfl)) (hw _ (List.mem_of_getElem? (i := 6) rfl)) (hw _ (List.mem_of_getElem? (i := 69) rfl)) (by decide) E_w_o0_scheme (own_msqs l Z a0 hw [] w_o0_scheme  h0 n0 (Nat.le_trans Z0 K0.1) ) 0 (by decide) (by decide) e9 (by decide) (by decide) (g := (mkF m 45 #[.val (.ref o0), .val (.ref o0), .val (.ref o0)] [(.ref w_o0_scheme), (.ref w_o0_scheme)])) rfl (by rw [hml']; rfl) (argsL := [(.ref w_o0_scheme)]) (rest := []) rfl (lenOf own_pd_Ljava_lang_Object__Z_838 rfl) rfl (by show 2 * 0 + _ ≤ _; exact Nat.le_of_eq rfl) (hb hby own_dres_45) (fun r10 T10 L10 X10 hQ10 => ?_)
  obtain ⟨rfl, Nq10, eq10⟩ := hQ10
  have N10 := Fr.app N7 Nq10
  show own_End p e below P (T10.setTop (mkF m 48 #[.val (.ref o0), .val (.ref o0), .val (.ref o0)] [(.int (1 : Int32))]))
  refine own_st (fun _ => XS.ifNo X10.here hx rfl (hb hby own_dres_48) rfl ((if0 _ _).trans (feq (by decide : ¬ ((1 : Int32) = (0 : Int32)))).1)) ?_
  show own_End p e below P (T10.setTop (mkF m 51 #[.val (.ref o0), .val (.ref o0), .val (.ref o0)] []))
  refine own_st (fun _ => XS.iconst X10.here hx rfl (hb hby own_dres_51)) ?_
  show own_End p e below P (T10.setTop (mkF m 52 #[.val (.ref o0), .val (.ref o0), .val (.ref o0)] [(.int (1 : Int32))]))
  refine own_st (fun _ => XS.goto X10.here hx rfl (pc0 := 52) (pc' := 56) rfl (hb hby own_dres_52) (by decide) (by decide)) ?_
  show own_End p e below P (T10.setTop (mkF m 56 #[.val (.ref o0), .val (.ref o0), .val (.ref o0)] [(.int (1 : Int32))]))
  refine own_retN X10 hx hlk hP (t := .boolean) (by simp) hrt (hb hby own_dres_56) (by decide) (by decide) ⟨congrArg (fun z => some (Value.int z)) ?_, N10, eq10⟩
  exact (show own_fres w_o0_port = (1 : Int32) from rfl).symm
theorem own_dreq_0 : decode prog_34_method_7_code 0 = .ok (.aload_n 1, 1) := by decide +kernel
theorem own_dreq_1 : decode prog_34_method_7_code 1 = .ok (.instanceof 8, 3) := by decide +kernel
theorem own_dreq_4 : decode prog_34_method_7_code 4 = .ok (.ifCond .eq 51, 3) := by decide +kernel
theorem own_dreq_7 : decode prog_34_method_7_code 7 = .ok (.aload_n 1, 1) := by decide +kernel
theorem own_dreq_8 : decode prog_34_method_7_code 8 = .ok (.checkcast 8, 3) := by decide +kernel
theorem own_dreq_11 : decode prog_34_method_7_code 11 = .ok (.astore_n 2, 1) := by decide +kernel
theorem own_dreq_12 : decode prog_34_method_7_code 12 = .ok (.aload_n 0, 1) := by decide +kernel
theorem own_dreq_13 : decode prog_34_method_7_code 13 = .ok (.getfield 16, 3) := by decide +kernel
theorem own_dreq_16 : decode prog_34_method_7_code 16 = .ok (.aload_n 2, 1) := by decide +kernel
theorem own_dreq_17 : decode prog_34_method_7_code 17 = .ok (.getfield 16, 3) := by decide +kernel
theorem own_dreq_20 : decode prog_34_method_7_code 20 = .ok (.if_icmp .ne 35, 3) := by decide +kernel
theorem own_dreq_23 : decode prog_34_method_7_code 23 = .ok (.aload_n 0, 1) := by decide +kernel
theorem own_dreq_24 : decode prog_34_method_7_code 24 = .ok (.getfield 13, 3) := by decide +kernel
theorem own_dreq_27 : decode prog_34_method_7_code 27 = .ok (.aload_n 2, 1) := by decide +kernel
theorem own_dreq_28 : decode prog_34_method_7_code 28 = .ok (.getfield 13, 3) := by decide +kernel
theorem own_dreq_31 : decode prog_34_method_7_code 31 = .ok (.invokevirtual 47, 3) := by decide +kernel
theorem own_dreq_34 : decode prog_34_method_7_code 34 = .ok (.ifCond .eq 21, 3) := by decide +kernel
theorem own_dreq_55 : decode prog_34_method_7_code 55 = .ok (.iconst 0, 1) := by decide +kernel
theorem own_dreq_56 : decode prog_34_method_7_code 56 = .ok (.ireturn, 1) := by decide +kernel
theorem own_dreq_37 : decode prog_34_method_7_code 37 = .ok (.aload_n 0, 1) := by decide +kernel
theorem own_dreq_38 : decode prog_34_method_7_code 38 = .ok (.getfield 7, 3) := by decide +kernel
theorem own_dreq_41 : decode prog_34_method_7_code 41 = .ok (.aload_n 2, 1) := by decide +kernel
theorem own_dreq_42 : decode prog_34_method_7_code 42 = .ok (.getfield 7, 3) := by decide +kernel
theorem own_dreq_45 : decode prog_34_method_7_code 45 = .ok (.invokevirtual 47, 3) := by decide +kernel
theorem own_dreq_48 : decode prog_34_method_7_code 48 = .ok (.ifCond .eq 7, 3) := by decide +kernel
theorem own_dreq_51 : decode prog_34_method_7_code 51 = .ok (.iconst 1, 1) := by decide +kernel
theorem own_dreq_52 : decode prog_34_method_7_code 52 = .ok (.goto 4, 3) := by decide +kernel
theorem own_efreq (m : MethodId) (o0 : Addr) (o1 : Addr) : entryFrame m #[(.ref o0), (.ref o1)] 3 = mkF m 0 #[.val (.ref o0), .val (.ref o1), .unset] [] := by first | (simp [entryFrame, mkF, argsToLocals, Value.category]; done) | rfl
def own_freq (xs0h : List Int32) (xs0s : List Int32) (xs1h : List Int32) (xs1s : List Int32) (w_o0_port : Int32) (w_o1_port : Int32) (s_String_COMPACT_STRINGS : Int32) : Int32 := (if w_o0_port = w_o1_port then (if (own_fsq xs0h xs1h s_String_COMPACT_STRINGS) = (0 : Int32) then (0 : Int32) else (if (own_fsq xs0s xs1s s_String_COMPACT_STRINGS) = (0 : Int32) then (0 : Int32) else (1 : Int32))) else (0 : Int32))
set_option maxRecDepth 65536 in
set_option maxHeartbeats 40000000 in
theorem own_mreq (l : Launch) (Z : State) (a0 : Array Value) (hw : ∀ d ∈ tables_1, d.before a0 Z = true) (ws : List Jvm.Cond) (o0 : Addr) (o1 : Addr) (xs0h : List Int32) (xs0s : List Int32) (xs1h : List Int32) (xs1s : List Int32) (w_o0_port : Int32) (w_o0_host : Addr) (w_o0_scheme : Addr) (w_o1_port : Int32) (w_o1_host : Addr) (w_o1_scheme : Addr) (w_w_o0_host_value : Addr) (w_w_o0_scheme_value : Addr) (w_w_o1_host_value : Addr) (w_w_o1_scheme_value : Addr) (s_String_COMPACT_STRINGS : Int32) (h0 : Heap) (n0 : Nat) (Z0 : n0 ≤ h0.size) (E_o0 : Exa Z h0 o0 "com/example/holdfast/holdfast/internal/Route") (E_o1 : Exa Z h0 o1 "com/example/holdfast/holdfast/internal/Route") (E_w_o0_host : Exa Z h0 w_o0_host "java/lang/String") (E_w_o0_scheme : Exa Z h0 w_o0_scheme "java/lang/String") (E_w_o1_host : Exa Z h0 w_o1_host "java/lang/String") (E_w_o1_scheme : Exa Z h0 w_o1_scheme "java/lang/String") (F_o0_port : Fld Z h0 o0 "com/example/holdfast/holdfast/internal/Route" "port" "I" (.int w_o0_port)) (F_o0_host : Fld Z h0 o0 "com/example/holdfast/holdfast/internal/Route" "host" "Ljava/lang/String;" (.ref w_o0_host)) (F_o0_scheme : Fld Z h0 o0 "com/example/holdfast/holdfast/internal/Route" "scheme" "Ljava/lang/String;" (.ref w_o0_scheme)) (F_o1_port : Fld Z h0 o1 "com/example/holdfast/holdfast/internal/Route" "port" "I" (.int w_o1_port)) (F_o1_host : Fld Z h0 o1 "com/example/holdfast/holdfast/internal/Route" "host" "Ljava/lang/String;" (.ref w_o1_host)) (F_o1_scheme : Fld Z h0 o1 "com/example/holdfast/holdfast/internal/Route" "scheme" "Ljava/lang/String;" (.ref w_o1_scheme)) (F_w_o0_host_value : Fld Z h0 w_o0_host "java/lang/String" "value" "[B" (.ref w_w_o0_host_value)) (F_w_o0_host_coder : Fld Z h0 w_o0_host "java/lang/String" "coder" "B" (.int (0 : Int32))) (F_w_o0_scheme_value : Fld Z h0 w_o0_scheme "java/lang/String" "value" "[B" (.ref w_w_o0_scheme_value)) (F_w_o0_scheme_coder : Fld Z h0 w_o0_scheme "java/lang/String" "coder" "B" (.int (0 : Int32))) (F_w_o1_host_value : Fld Z h0 w_o1_host "java/lang/String" "value" "[B" (.ref w_w_o1_host_value)) (F_w_o1_host_coder : Fld Z h0 w_o1_host "java/lang/String" "coder" "B" (.int (0 : Int32))) (F_w_o1_scheme_value : Fld Z h0 w_o1_scheme "java/lang/String" "value" "[B" (.ref w_w_o1_scheme_value)) (F_w_o1_scheme_coder : Fld Z h0 w_o1_scheme "java/lang/String" "coder" "B" (.int (0 : Int32))) (S_String_COMPACT_STRINGS : Sta Z h0 "java/lang/String" "COMPACT_STRINGS" "Z" (.int s_String_COMPACT_STRINGS)) (A_w_w_o0_host_value : own_BA Z h0 w_w_o0_host_value xs0h) (A_w_w_o0_scheme_value : own_BA Z h0 w_w_o0_scheme_value xs0s) (A_w_w_o1_host_value : own_BA Z h0 w_w_o1_host_value xs1h) (A_w_w_o1_scheme_value : own_BA Z h0 w_w_o1_scheme_value xs1s) (ne_w_o0_host_w_o1_host : w_o0_host ≠ w_o1_host) (ne_w_o0_scheme_w_o1_scheme : w_o0_scheme ≠ w_o1_scheme) (hnz : ¬ (s_String_COMPACT_STRINGS = (0 : Int32))) (h0h : xs0h.length ≤ 3) (h0s : xs0s.length ≤ 3) (h1h : xs1h.length ≤ 3) (h1s : xs1s.length ≤ 3) :
    own_Met l Z (⟨"com/example/holdfast/holdfast/internal/Route", "equals", "(Ljava/lang/Object;)Z"⟩ : MethodName) prog_34_method_7_code 3 (some .boolean) ws ({ frames := 2, cells := 0, slots := 0, locals := 28 } : Room) #[(.ref o0), (.ref o1)] h0 (fun (v : Option Value) (h : Heap) (L : List Loc) => v = some (.int (own_freq xs0h xs0s xs1h xs1s w_o0_port w_o1_port s_String_COMPACT_STRINGS)) ∧ Fr n0 L ∧ h = h0) := by
  refine own_enter (plainFor_of_name own_pn_com_example_holdfast_holdfast_internal_Route) ?_
  intro p e s m below meth c s₁ P hx hby hml hrt hlk hown hnm hZ X0 e0 hP
  have N0 := Fr.nil n0
  have K0 := Keep.refl h0 []
  have hml' : c.maxLocals = 3 := hml
  refine own_cast (own_efreq m o0 o1) ?_
  show own_End p e below P (s₁.setTop (mkF m 0 #[.val (.ref o0), .val (.ref o1), .unset] []))
  refine own_st (fun _ => XS.aloadN X0.here hx rfl (hb hby own_dreq_0) rfl rfl) ?_
  show own_End p e below P (s₁.setTop (mkF m 1 #[.val (.ref o0), .val (.ref o1), .unset] [(.ref o1)]))
  obtain ⟨T1, X1, e1, st1⟩ := instY X0 hx hZ hown (hw _ (List.mem_of_getElem? (i := 63) rfl)) e0 (Ins.self E_o1) (g := (mkF m 1 #[.val (.ref o0), .val (.ref o1), .unset] [(.ref o1)])) rfl rfl (hb hby own_dreq_1)
  refine own_st (fun _ => st1 _) ?_
  show own_End p e below P (T1.setTop (mkF m 4 #[.val (.ref o0), .val (.ref o1), .unset] [(.int (1 : Int32))]))
  refine own_st (fun _ => XS.ifNo X1.here hx rfl (hb hby own_dreq_4) rfl ((if0 _ _).trans (feq (by decide : ¬ ((1 : Int32) = (0 : Int32)))).1)) ?_
  show own_End p e below P (T1.setTop (mkF m 7 #[.val (.ref o0), .val (.ref o1), .unset] []))
  refine own_st (fun _ => XS.aloadN X1.here hx rfl (hb hby own_dreq_7) rfl rfl) ?_
  show own_End p e below P (T1.setTop (mkF m 8 #[.val (.ref o0), .val (.ref o1), .unset] [(.ref o1)]))
  obtain ⟨T2, X2, e2, st2⟩ := castY X1 hx hZ hown (hw _ (List.mem_of_getElem? (i := 63) rfl)) e1 (Ins.self E_o1) (g := (mkF m 8 #[.val (.ref o0), .val (.ref o1), .unset] [(.ref o1)])) rfl rfl (hb hby own_dreq_8)
  refine own_st (fun _ => st2 _) ?_
  show own_End p e below P (T2.setTop (mkF m 11 #[.val (.ref o0), .val (.ref o1), .unset] [(.ref o1)]))
  refine own_st (fun _ => XS.astoreN X2.here hx rfl (hb hby own_dreq_11) rfl rfl (l' := #[.val (.ref o0), .val (.ref o1), .val (.ref o1)]) rfl) ?_
  show own_End p e below P (T2.setTop (mkF m 12 #[.val (.ref o0), .val (.ref o1), .val (.ref o1)] []))
  refine own_st (fun _ => XS.aloadN X2.here hx rfl (hb hby own_dreq_12) rfl rfl) ?_
  show own_End p e below P (T2.setTop (mkF m 13 #[.val (.ref o0), .val (.ref o1), .val (.ref o1)] [(.ref o0)]))
  obtain ⟨T3, X3, e3, st3⟩ := getF X2 hx hZ hown (host := "") (Or.inl (hw _ (List.mem_of_getElem? (i := 53) rfl))) Via.refl e2 F_o0_port (g := (mkF m 13 #[.val (.ref o0), .val (.ref o1), .val (.ref o1)] [(.ref o0)])) rfl rfl (hb hby own_dreq_13)
  refine own_st (fun _ => st3 _) ?_
  show own_End p e below P (T3.setTop (mkF m 16 #[.val (.ref o0), .val (.ref o1), .val (.ref o1)] [(.int w_o0_port)]))
  refine own_st (fun _ => XS.aloadN X3.here hx rfl (hb hby own_dreq_16) rfl rfl) ?_
  show own_End p e below P (T3.setTop (mkF m 17 #[.val (.ref o0), .val (.ref o1), .val (.ref o1)] [(.ref o1), (.int w_o0_port)]))
  obtain ⟨T4, X4, e4, st4⟩ := getF X3 hx hZ hown (host := "") (Or.inl (hw _ (List.mem_of_getElem? (i := 53) rfl))) Via.refl e3 F_o1_port (g := (mkF m 17 #[.val (.ref o0), .val (.ref o1), .val (.ref o1)] [(.ref o1), (.int w_o0_port)])) rfl rfl (hb hby own_dreq_17)
  refine own_st (fun _ => st4 _) ?_
  show own_End p e below P (T4.setTop (mkF m 20 #[.val (.ref o0), .val (.ref o1), .val (.ref o1)] [(.int w_o1_port), (.int w_o0_port)]))
  by_cases hc5 : w_o0_port = w_o1_port
  · refine own_st (fun _ => XS.icmpNo X4.here hx rfl (hb hby own_dreq_20) rfl (teq hc5).2) ?_
    show own_End p e below P (T4.setTop (mkF m 23 #[.val (.ref o0), .val (.ref o1), .val (.ref o1)] []))
    refine own_st (fun _ => XS.aloadN X4.here hx rfl (hb hby own_dreq_23) rfl rfl) ?_
    show own_End p e below P (T4.setTop (mkF m 24 #[.val (.ref o0), .val (.ref o1), .val (.ref o1)] [(.ref o0)]))
    obtain ⟨T6, X6, e6, st6⟩ := getF X4 hx hZ hown (host := "") (Or.inl (hw _ (List.mem_of_getElem? (i := 51) rfl))) Via.refl e4 F_o0_host (g := (mkF m 24 #[.val (.ref o0), .val (.ref o1), .val (.ref o1)] [(.ref o0)])) rfl rfl (hb hby own_dreq_24)
    refine own_st (fun _ => st6 _) ?_
    show own_End p e below P (T6.setTop (mkF m 27 #[.val (.ref o0), .val (.ref o1), .val (.ref o1)] [(.ref w_o0_host)]))
    refine own_st (fun _ => XS.aloadN X6.here hx rfl (hb hby own_dreq_27) rfl rfl) ?_
    show own_End p e below P (T6.setTop (mkF m 28 #[.val (.ref o0), .val (.ref o1), .val (.ref o1)] [(.ref o1), (.ref w_o0_host)]))
    obtain ⟨T7, X7, e7, st7⟩ := getF X6 hx hZ hown (host := "") (Or.inl (hw _ (List.mem_of_getElem? (i := 51) rfl))) Via.refl e6 F_o1_host (g := (mkF m 28 #[.val (.ref o0), .val (.ref o1), .val (.ref o1)] [(.ref o1), (.ref w_o0_host)])) rfl rfl (hb hby own_dreq_28)
    refine own_st (fun _ => st7 _) ?_
    show own_End p e below P (T7.setTop (mkF m 31 #[.val (.ref o0), .val (.ref o1), .val (.ref o1)] [(.ref w_o1_host), (.ref w_o0_host)]))
    refine own_callV X7 hx hZ (y := (⟨"java/lang/String", "equals", "(Ljava/lang/Object;)Z"⟩ : MethodName)) (z := (⟨"java/lang/String", "equals", "(Ljava/lang/Object;)Z"⟩ : MethodName)) hown (hw _ (List.mem_of_getElem? (i := 65) rfl)) (hw _ (List.mem_of_getElem? (i := 66) rfl)) (notFace_of_selects (args := #[]) (mvT hZ (hw _ (List.mem_of_getElem? (i := 68) rfl)))) (hw _ (List.mem_of_getElem? (i := 68) rfl)) (hw _ (List.mem_of_getElem? (i := 67) rfl)) (hw _ (List.mem_of_getElem? (i := 6) rfl)) (hw _ (List.mem_of_getElem? (i := 69) rfl)) (by decide) E_w_o0_host (own_msq l Z a0 hw [] w_o0_host w_o1_host xs0h xs1h w_w_o0_host_value w_w_o1_host_value s_String_COMPACT_STRINGS h0 n0 (Nat.le_trans Z0 K0.1) E_w_o0_host E_w_o1_host F_w_o0_host_value F_w_o0_host_coder F_w_o1_host_value F_w_o1_host_coder S_String_COMPACT_STRINGS A_w_w_o0_host_value A_w_w_o1_host_value ne_w_o0_host_w_o1_host hnz h0h h1h) 0 (by decide) (by decide) e7 (by decide) (by decide) (g := (mkF m 31 #[.val (.ref o0), .val (.ref o1), .val (.ref o1)] [(.ref w_o1_host), (.ref w_o0_host)])) rfl (by rw [hml']; rfl) (argsL := [(.ref w_o1_host)]) (rest := []) rfl (lenOf own_pd_Ljava_lang_Object__Z_838 rfl) rfl (by show 2 * 0 + _ ≤ _; exact Nat.le_of_eq rfl) (hb hby own_dreq_31) (fun r8 T8 L8 X8 hQ8 => ?_)
    obtain ⟨rfl, Nq8, eq8⟩ := hQ8
    have N8 := Fr.app N0 Nq8
    show own_End p e below P (T8.setTop (mkF m 34 #[.val (.ref o0), .val (.ref o1), .val (.ref o1)] [(.int (own_fsq xs0h xs1h s_String_COMPACT_STRINGS))]))
    by_cases hc9 : (own_fsq xs0h xs1h s_String_COMPACT_STRINGS) = (0 : Int32)
    · refine own_st (fun _ => XS.ifYes X8.here hx rfl (pc0 := 34) (pc' := 55) rfl (hb hby own_dreq_34) rfl ((if0 _ _).trans (teq hc9).1) (by decide) (by decide)) ?_
      show own_End p e below P (T8.setTop (mkF m 55 #[.val (.ref o0), .val (.ref o1), .val (.ref o1)] []))
      refine own_st (fun _ => XS.iconst X8.here hx rfl (hb hby own_dreq_55)) ?_
      show own_End p e below P (T8.setTop (mkF m 56 #[.val (.ref o0), .val (.ref o1), .val (.ref o1)] [(.int (0 : Int32))]))
      refine own_retN X8 hx hlk hP (t := .boolean) (by simp) hrt (hb hby own_dreq_56) (by decide) (by decide) ⟨congrArg (fun z => some (Value.int z)) ?_, N8, eq8⟩
      exact (show own_freq xs0h xs0s xs1h xs1s w_o0_port w_o1_port s_String_COMPACT_STRINGS = (0 : Int32) from (if_pos hc5).trans ((if_pos hc9).trans (rfl))).symm
    · refine own_st (fun _ => XS.ifNo X8.here hx rfl (hb hby own_dreq_34) rfl ((if0 _ _).trans (feq hc9).1)) ?_
      show own_End p e below P (T8.setTop (mkF m 37 #[.val (.ref o0), .val (.ref o1), .val (.ref o1)] []))
      refine own_st (fun _ => XS.aloadN X8.here hx rfl (hb hby own_dreq_37) rfl rfl) ?_
      show own_End p e below P (T8.setTop (mkF m 38 #[.val (.ref o0), .val (.ref o1), .val (.ref o1)] [(.ref o0)]))
      obtain ⟨T10, X10, e10, st10⟩ := getF X8 hx hZ hown (host := "") (Or.inl (hw _ (List.mem_of_getElem? (i := 49) rfl))) Via.refl eq8 F_o0_scheme (g := (mkF m 38 #[.val (.ref o0), .val (.ref o1), .val (.ref o1)] [(.ref o0)])) rfl rfl (hb hby own_dreq_38)
      refine own_st (fun _ => st10 _) ?_
      show own_End p e below P (T10.setTop (mkF m 41 #[.val (.ref o0), .val (.ref o1), .val (.ref o1)] [(.ref w_o0_scheme)]))
      refine own_st (fun _ => XS.aloadN X10.here hx rfl (hb hby own_dreq_41) rfl rfl) ?_
      show own_End p e below P (T10.setTop (mkF m 42 #[.val (.ref o0), .val (.ref o1), .val (.ref o1)] [(.ref o1), (.ref w_o0_scheme)]))
      obtain ⟨T11, X11, e11, st11⟩ := getF X10 hx hZ hown (host := "") (Or.inl (hw _ (List.mem_of_getElem? (i := 49) rfl))) Via.refl e10 F_o1_scheme (g := (mkF m 42 #[.val (.ref o0), .val (.ref o1), .val (.ref o1)] [(.ref o1), (.ref w_o0_scheme)])) rfl rfl (hb hby own_dreq_42)
      refine own_st (fun _ => st11 _) ?_
      show own_End p e below P (T11.setTop (mkF m 45 #[.val (.ref o0), .val (.ref o1), .val (.ref o1)] [(.ref w_o1_scheme), (.ref w_o0_scheme)]))
      refine own_callV X11 hx hZ (y := (⟨"java/lang/String", "equals", "(Ljava/lang/Object;)Z"⟩ : MethodName)) (z := (⟨"java/lang/String", "equals", "(Ljava/lang/Object;)Z"⟩ : MethodName)) hown (hw _ (List.mem_of_getElem? (i := 65) rfl)) (hw _ (List.mem_of_getElem? (i := 66) rfl)) (notFace_of_selects (args := #[]) (mvT hZ (hw _ (List.mem_of_getElem? (i := 68) rfl)))) (hw _ (List.mem_of_getElem? (i := 68) rfl)) (hw _ (List.mem_of_getElem? (i := 67) rfl)) (hw _ (List.mem_of_getElem? (i := 6) rfl)) (hw _ (List.mem_of_getElem? (i := 69) rfl)) (by decide) E_w_o0_scheme (own_msq l Z a0 hw [] w_o0_scheme w_o1_scheme xs0s xs1s w_w_o0_scheme_value w_w_o1_scheme_value s_String_COMPACT_STRINGS h0 n0 (Nat.le_trans Z0 K0.1) E_w_o0_scheme E_w_o1_scheme F_w_o0_scheme_value F_w_o0_scheme_coder F_w_o1_scheme_value F_w_o1_scheme_coder S_String_COMPACT_STRINGS A_w_w_o0_scheme_value A_w_w_o1_scheme_value ne_w_o0_scheme_w_o1_scheme hnz h0s h1s) 0 (by decide) (by decide) e11 (by decide) (by decide) (g := (mkF m 45 #[.val (.ref o0), .val (.ref o1), .val (.ref o1)] [(.ref w_o1_scheme), (.ref w_o0_scheme)])) rfl (by rw [hml']; rfl) (argsL := [(.ref w_o1_scheme)]) (rest := []) rfl (lenOf own_pd_Ljava_lang_Object__Z_838 rfl) rfl (by show 2 * 0 + _ ≤ _; exact Nat.le_of_eq rfl) (hb hby own_dreq_45) (fun r12 T12 L12 X12 hQ12 => ?_)
      obtain ⟨rfl, Nq12, eq12⟩ := hQ12
      have N12 := Fr.app N8 Nq12
      show own_End p e below P (T12.setTop (mkF m 48 #[.val (.ref o0), .val (.ref o1), .val (.ref o1)] [(.int (own_fsq xs0s xs1s s_String_COMPACT_STRINGS))]))
      by_cases hc13 : (own_fsq xs0s xs1s s_String_COMPACT_STRINGS) = (0 : Int32)
      · refine own_st (fun _ => XS.ifYes X12.here hx rfl (pc0 := 48) (pc' := 55) rfl (hb hby own_dreq_48) rfl ((if0 _ _).trans (teq hc13).1) (by decide) (by decide)) ?_
        show own_End p e below P (T12.setTop (mkF m 55 #[.val (.ref o0), .val (.ref o1), .val (.ref o1)] []))
        refine own_st (fun _ => XS.iconst X12.here hx rfl (hb hby own_dreq_55)) ?_
        show own_End p e below P (T12.setTop (mkF m 56 #[.val (.ref o0), .val (.ref o1), .val (.ref o1)] [(.int (0 : Int32))]))
        refine own_retN X12 hx hlk hP (t := .boolean) (by simp) hrt (hb hby own_dreq_56) (by decide) (by decide) ⟨congrArg (fun z => some (Value.int z)) ?_, N12, eq12⟩
        exact (show own_freq xs0h xs0s xs1h xs1s w_o0_port w_o1_port s_String_COMPACT_STRINGS = (0 : Int32) from (if_pos hc5).trans ((if_neg hc9).trans ((if_pos hc13).trans (rfl)))).symm
      · refine own_st (fun _ => XS.ifNo X12.here hx rfl (hb hby own_dreq_48) rfl ((if0 _ _).trans (feq hc13).1)) ?_
        show own_End p e below P (T12.setTop (mkF m 51 #[.val (.ref o0), .val (.ref o1), .val (.ref o1)] []))
        refine own_st (fun _ => XS.iconst X12.here hx rfl (hb hby own_dreq_51)) ?_
        show own_End p e below P (T12.setTop (mkF m 52 #[.val (.ref o0), .val (.ref o1), .val (.ref o1)] [(.int (1 : Int32))]))
        refine own_st (fun _ => XS.goto X12.here hx rfl (pc0 := 52) (pc' := 56) rfl (hb hby own_dreq_52) (by decide) (by decide)) ?_
        show own_End p e below P (T12.setTop (mkF m 56 #[.val (.ref o0), .val (.ref o1), .val (.ref o1)] [(.int (1 : Int32))]))
        refine own_retN X12 hx hlk hP (t := .boolean) (by simp) hrt (hb hby own_dreq_56) (by decide) (by decide) ⟨congrArg (fun z => some (Value.int z)) ?_, N12, eq12⟩
        exact (show own_freq xs0h xs0s xs1h xs1s w_o0_port w_o1_port s_String_COMPACT_STRINGS = (1 : Int32) from (if_pos hc5).trans ((if_neg hc9).trans ((if_neg hc13).trans (rfl)))).symm
  · refine own_st (fun _ => XS.icmpYes X4.here hx rfl (pc0 := 20) (pc' := 55) rfl (hb hby own_dreq_20) rfl (feq hc5).2 (by decide) (by decide)) ?_
    show own_End p e below P (T4.setTop (mkF m 55 #[.val (.ref o0), .val (.ref o1), .val (.ref o1)] []))
    refine own_st (fun _ => XS.iconst X4.here hx rfl (hb hby own_dreq_55)) ?_
    show own_End p e below P (T4.setTop (mkF m 56 #[.val (.ref o0), .val (.ref o1), .val (.ref o1)] [(.int (0 : Int32))]))
    refine own_retN X4 hx hlk hP (t := .boolean) (by simp) hrt (hb hby own_dreq_56) (by decide) (by decide) ⟨congrArg (fun z => some (Value.int z)) ?_, N0, e4⟩
    exact (show own_freq xs0h xs0s xs1h xs1s w_o0_port w_o1_port s_String_COMPACT_STRINGS = (0 : Int32) from (if_neg hc5).trans (rfl)).symm
theorem own_dsh2_0 : decode jdk_48_method_5_code 0 = .ok (.iload_n 2, 1) := by decide +kernel
theorem own_dsh2_1 : decode jdk_48_method_5_code 1 = .ok (.iload_n 3, 1) := by decide +kernel
theorem own_dsh2_2 : decode jdk_48_method_5_code 2 = .ok (.iadd, 1) := by decide +kernel
theorem own_dsh2_3 : decode jdk_48_method_5_code 3 = .ok (.istore 4, 2) := by decide +kernel
theorem own_dsh2_5 : decode jdk_48_method_5_code 5 = .ok (.iload_n 2, 1) := by decide +kernel
theorem own_dsh2_6 : decode jdk_48_method_5_code 6 = .ok (.istore 5, 2) := by decide +kernel
theorem own_dsh2_8 : decode jdk_48_method_5_code 8 = .ok (.iload 5, 2) := by decide +kernel
theorem own_dsh2_10 : decode jdk_48_method_5_code 10 = .ok (.iload 4, 2) := by decide +kernel
theorem own_dsh2_12 : decode jdk_48_method_5_code 12 = .ok (.if_icmp .ge 23, 3) := by decide +kernel
theorem own_dsh2_15 : decode jdk_48_method_5_code 15 = .ok (.bipush 31, 2) := by decide +kernel
theorem own_dsh2_17 : decode jdk_48_method_5_code 17 = .ok (.iload_n 0, 1) := by decide +kernel
theorem own_dsh2_18 : decode jdk_48_method_5_code 18 = .ok (.imul, 1) := by decide +kernel
theorem own_dsh2_19 : decode jdk_48_method_5_code 19 = .ok (.aload_n 1, 1) := by decide +kernel
theorem own_dsh2_20 : decode jdk_48_method_5_code 20 = .ok (.iload 5, 2) := by decide +kernel
theorem own_dsh2_22 : decode jdk_48_method_5_code 22 = .ok (.baload, 1) := by decide +kernel
theorem own_dsh2_23 : decode jdk_48_method_5_code 23 = .ok (.sipush 255, 3) := by decide +kernel
theorem own_dsh2_26 : decode jdk_48_method_5_code 26 = .ok (.iand, 1) := by decide +kernel
theorem own_dsh2_27 : decode jdk_48_method_5_code 27 = .ok (.iadd, 1) := by decide +kernel
theorem own_dsh2_28 : decode jdk_48_method_5_code 28 = .ok (.istore_n 0, 1) := by decide +kernel
theorem own_dsh2_29 : decode jdk_48_method_5_code 29 = .ok (.iinc 5 1, 3) := by decide +kernel
theorem own_dsh2_32 : decode jdk_48_method_5_code 32 = .ok (.goto (-24), 3) := by decide +kernel
theorem own_dsh2_35 : decode jdk_48_method_5_code 35 = .ok (.iload_n 0, 1) := by decide +kernel
theorem own_dsh2_36 : decode jdk_48_method_5_code 36 = .ok (.ireturn, 1) := by decide +kernel
theorem own_efsh2 (m : MethodId) (o1 : Addr) : entryFrame m #[(.int (0 : Int32)), (.ref o1), (.int (0 : Int32)), (.int (2 : Int32))] 6 = mkF m 0 #[.val (.int (0 : Int32)), .val (.ref o1), .val (.int (0 : Int32)), .val (.int (2 : Int32)), .unset, .unset] [] := by first | (simp [entryFrame, mkF, argsToLocals, Value.category]; done) | rfl
def own_fsh2 (c0 : Int32) (c1 : Int32) : Int32 := (((31 : Int32) * ((0 : Int32) + (c0 &&& (255 : Int32)))) + (c1 &&& (255 : Int32)))
theorem own_pn_jdk_internal_util_ArraysSupport : plainName "jdk/internal/util/ArraysSupport" = true := by first | (simp [plainName, overriddenIn]; done) | decide +kernel
set_option maxRecDepth 65536 in
set_option maxHeartbeats 40000000 in
theorem own_msh2 (l : Launch) (Z : State) (a0 : Array Value) (hw : ∀ d ∈ tables_1, d.before a0 Z = true) (ws : List Jvm.Cond) (o1 : Addr) (c0 : Int32) (c1 : Int32) (h0 : Heap) (n0 : Nat) (Z0 : n0 ≤ h0.size) (A_o1 : own_BA Z h0 o1 [c0, c1]) :
    own_Met l Z (⟨"jdk/internal/util/ArraysSupport", "signedHashCode", "(I[BII)I"⟩ : MethodName) jdk_48_method_5_code 6 (some .int) ws ({ frames := 0, cells := 0, slots := 0, locals := 0 } : Room) #[(.int (0 : Int32)), (.ref o1), (.int (0 : Int32)), (.int (2 : Int32))] h0 (fun (v : Option Value) (h : Heap) (L : List Loc) => v = some (.int (own_fsh2 c0 c1)) ∧ Fr n0 L ∧ h = h0) := by
  refine own_enter (plainFor_of_name own_pn_jdk_internal_util_ArraysSupport) ?_
  intro p e s m below meth c s₁ P hx hby hml hrt hlk hown hnm hZ X0 e0 hP
  have N0 := Fr.nil n0
  have K0 := Keep.refl h0 []
  have hml' : c.maxLocals = 6 := hml
  refine own_cast (own_efsh2 m o1) ?_
  show own_End p e below P (s₁.setTop (mkF m 0 #[.val (.int (0 : Int32)), .val (.ref o1), .val (.int (0 : Int32)), .val (.int (2 : Int32)), .unset, .unset] []))
  refine own_st (fun _ => XS.iloadN X0.here hx rfl (hb hby own_dsh2_0) rfl) ?_
  show own_End p e below P (s₁.setTop (mkF m 1 #[.val (.int (0 : Int32)), .val (.ref o1), .val (.int (0 : Int32)), .val (.int (2 : Int32)), .unset, .unset] [(.int (0 : Int32))]))
  refine own_st (fun _ => XS.iloadN X0.here hx rfl (hb hby own_dsh2_1) rfl) ?_
  show own_End p e below P (s₁.setTop (mkF m 2 #[.val (.int (0 : Int32)), .val (.ref o1), .val (.int (0 : Int32)), .val (.int (2 : Int32)), .unset, .unset] [(.int (2 : Int32)), (.int (0 : Int32))]))
  refine own_st (fun _ => XS.iadd X0.here hx rfl (hb hby own_dsh2_2) rfl) ?_
  show own_End p e below P (s₁.setTop (mkF m 3 #[.val (.int (0 : Int32)), .val (.ref o1), .val (.int (0 : Int32)), .val (.int (2 : Int32)), .unset, .unset] [(.int (2 : Int32))]))
  refine own_st (fun _ => XS.istore X0.here hx rfl (hb hby own_dsh2_3) rfl (l' := #[.val (.int (0 : Int32)), .val (.ref o1), .val (.int (0 : Int32)), .val (.int (2 : Int32)), .val (.int (2 : Int32)), .unset]) rfl) ?_
  show own_End p e below P (s₁.setTop (mkF m 5 #[.val (.int (0 : Int32)), .val (.ref o1), .val (.int (0 : Int32)), .val (.int (2 : Int32)), .val (.int (2 : Int32)), .unset] []))
  refine own_st (fun _ => XS.iloadN X0.here hx rfl (hb hby own_dsh2_5) rfl) ?_
  show own_End p e below P (s₁.setTop (mkF m 6 #[.val (.int (0 : Int32)), .val (.ref o1), .val (.int (0 : Int32)), .val (.int (2 : Int32)), .val (.int (2 : Int32)), .unset] [(.int (0 : Int32))]))
  refine own_st (fun _ => XS.istore X0.here hx rfl (hb hby own_dsh2_6) rfl (l' := #[.val (.int (0 : Int32)), .val (.ref o1), .val (.int (0 : Int32)), .val (.int (2 : Int32)), .val (.int (2 : Int32)), .val (.int (0 : Int32))]) rfl) ?_
  show own_End p e below P (s₁.setTop (mkF m 8 #[.val (.int (0 : Int32)), .val (.ref o1), .val (.int (0 : Int32)), .val (.int (2 : Int32)), .val (.int (2 : Int32)), .val (.int (0 : Int32))] []))
  refine own_st (fun _ => XS.iload X0.here hx rfl (hb hby own_dsh2_8) rfl) ?_
  show own_End p e below P (s₁.setTop (mkF m 10 #[.val (.int (0 : Int32)), .val (.ref o1), .val (.int (0 : Int32)), .val (.int (2 : Int32)), .val (.int (2 : Int32)), .val (.int (0 : Int32))] [(.int (0 : Int32))]))
  refine own_st (fun _ => XS.iload X0.here hx rfl (hb hby own_dsh2_10) rfl) ?_
  show own_End p e below P (s₁.setTop (mkF m 12 #[.val (.int (0 : Int32)), .val (.ref o1), .val (.int (0 : Int32)), .val (.int (2 : Int32)), .val (.int (2 : Int32)), .val (.int (0 : Int32))] [(.int (2 : Int32)), (.int (0 : Int32))]))
  refine own_st (fun _ => XS.icmpNo X0.here hx rfl (hb hby own_dsh2_12) rfl (tlt (by decide : (0 : Int32) < (2 : Int32))).2.1) ?_
  show own_End p e below P (s₁.setTop (mkF m 15 #[.val (.int (0 : Int32)), .val (.ref o1), .val (.int (0 : Int32)), .val (.int (2 : Int32)), .val (.int (2 : Int32)), .val (.int (0 : Int32))] []))
  refine own_st (fun _ => XS.bipush X0.here hx rfl (hb hby own_dsh2_15)) ?_
  show own_End p e below P (s₁.setTop (mkF m 17 #[.val (.int (0 : Int32)), .val (.ref o1), .val (.int (0 : Int32)), .val (.int (2 : Int32)), .val (.int (2 : Int32)), .val (.int (0 : Int32))] [(.int (31 : Int32))]))
  refine own_st (fun _ => XS.iloadN X0.here hx rfl (hb hby own_dsh2_17) rfl) ?_
  show own_End p e below P (s₁.setTop (mkF m 18 #[.val (.int (0 : Int32)), .val (.ref o1), .val (.int (0 : Int32)), .val (.int (2 : Int32)), .val (.int (2 : Int32)), .val (.int (0 : Int32))] [(.int (0 : Int32)), (.int (31 : Int32))]))
  refine own_st (fun _ => XS.imul X0.here hx rfl (hb hby own_dsh2_18) rfl) ?_
  show own_End p e below P (s₁.setTop (mkF m 19 #[.val (.int (0 : Int32)), .val (.ref o1), .val (.int (0 : Int32)), .val (.int (2 : Int32)), .val (.int (2 : Int32)), .val (.int (0 : Int32))] [(.int (0 : Int32))]))
  refine own_st (fun _ => XS.aloadN X0.here hx rfl (hb hby own_dsh2_19) rfl rfl) ?_
  show own_End p e below P (s₁.setTop (mkF m 20 #[.val (.int (0 : Int32)), .val (.ref o1), .val (.int (0 : Int32)), .val (.int (2 : Int32)), .val (.int (2 : Int32)), .val (.int (0 : Int32))] [(.ref o1), (.int (0 : Int32))]))
  refine own_st (fun _ => XS.iload X0.here hx rfl (hb hby own_dsh2_20) rfl) ?_
  show own_End p e below P (s₁.setTop (mkF m 22 #[.val (.int (0 : Int32)), .val (.ref o1), .val (.int (0 : Int32)), .val (.int (2 : Int32)), .val (.int (2 : Int32)), .val (.int (0 : Int32))] [(.int (0 : Int32)), (.ref o1), (.int (0 : Int32))]))
  refine own_baload X0 hx hZ e0 A_o1 (j := (0 : Int32)) (v := c0) (i := 0) (by decide) rfl (g := (mkF m 22 #[.val (.int (0 : Int32)), .val (.ref o1), .val (.int (0 : Int32)), .val (.int (2 : Int32)), .val (.int (2 : Int32)), .val (.int (0 : Int32))] [(.int (0 : Int32)), (.ref o1), (.int (0 : Int32))])) rfl rfl (hb hby own_dsh2_22) ?_
  show own_End p e below P (s₁.setTop (mkF m 23 #[.val (.int (0 : Int32)), .val (.ref o1), .val (.int (0 : Int32)), .val (.int (2 : Int32)), .val (.int (2 : Int32)), .val (.int (0 : Int32))] [(.int c0), (.int (0 : Int32))]))
  refine own_st (fun _ => XS.sipush X0.here hx rfl (hb hby own_dsh2_23)) ?_
  show own_End p e below P (s₁.setTop (mkF m 26 #[.val (.int (0 : Int32)), .val (.ref o1), .val (.int (0 : Int32)), .val (.int (2 : Int32)), .val (.int (2 : Int32)), .val (.int (0 : Int32))] [(.int (255 : Int32)), (.int c0), (.int (0 : Int32))]))
  refine own_st (fun _ => XS.iand X0.here hx rfl (hb hby own_dsh2_26) rfl) ?_
  show own_End p e below P (s₁.setTop (mkF m 27 #[.val (.int (0 : Int32)), .val (.ref o1), .val (.int (0 : Int32)), .val (.int (2 : Int32)), .val (.int (2 : Int32)), .val (.int (0 : Int32))] [(.int (c0 &&& (255 : Int32))), (.int (0 : Int32))]))
  refine own_st (fun _ => XS.iadd X0.here hx rfl (hb hby own_dsh2_27) rfl) ?_
  show own_End p e below P (s₁.setTop (mkF m 28 #[.val (.int (0 : Int32)), .val (.ref o1), .val (.int (0 : Int32)), .val (.int (2 : Int32)), .val (.int (2 : Int32)), .val (.int (0 : Int32))] [(.int ((0 : Int32) + (c0 &&& (255 : Int32))))]))
  refine own_st (fun _ => XS.istoreN X0.here hx rfl (hb hby own_dsh2_28) rfl (l' := #[.val (.int ((0 : Int32) + (c0 &&& (255 : Int32)))), .val (.ref o1), .val (.int (0 : Int32)), .val (.int (2 : Int32)), .val (.int (2 : Int32)), .val (.int (0 : Int32))]) rfl) ?_
  show own_End p e below P (s₁.setTop (mkF m 29 #[.val (.int ((0 : Int32) + (c0 &&& (255 : Int32)))), .val (.ref o1), .val (.int (0 : Int32)), .val (.int (2 : Int32)), .val (.int (2 : Int32)), .val (.int (0 : Int32))] []))
  refine own_st (fun _ => XS.iinc X0.here hx rfl (hb hby own_dsh2_29) rfl (l' := #[.val (.int ((0 : Int32) + (c0 &&& (255 : Int32)))), .val (.ref o1), .val (.int (0 : Int32)), .val (.int (2 : Int32)), .val (.int (2 : Int32)), .val (.int (1 : Int32))]) rfl) ?_
  show own_End p e below P (s₁.setTop (mkF m 32 #[.val (.int ((0 : Int32) + (c0 &&& (255 : Int32)))), .val (.ref o1), .val (.int (0 : Int32)), .val (.int (2 : Int32)), .val (.int (2 : Int32)), .val (.int (1 : Int32))] []))
  refine own_st (fun _ => XS.goto X0.here hx rfl (pc0 := 32) (pc' := 8) rfl (hb hby own_dsh2_32) (by decide) (by decide)) ?_
  show own_End p e below P (s₁.setTop (mkF m 8 #[.val (.int ((0 : Int32) + (c0 &&& (255 : Int32)))), .val (.ref o1), .val (.int (0 : Int32)), .val (.int (2 : Int32)), .val (.int (2 : Int32)), .val (.int (1 : Int32))] []))
  refine own_st (fun _ => XS.iload X0.here hx rfl (hb hby own_dsh2_8) rfl) ?_
  show own_End p e below P (s₁.setTop (mkF m 10 #[.val (.int ((0 : Int32) + (c0 &&& (255 : Int32)))), .val (.ref o1), .val (.int (0 : Int32)), .val (.int (2 : Int32)), .val (.int (2 : Int32)), .val (.int (1 : Int32))] [(.int (1 : Int32))]))
  refine own_st (fun _ => XS.iload X0.here hx rfl (hb hby own_dsh2_10) rfl) ?_
  show own_End p e below P (s₁.setTop (mkF m 12 #[.val (.int ((0 : Int32) + (c0 &&& (255 : Int32)))), .val (.ref o1), .val (.int (0 : Int32)), .val (.int (2 : Int32)), .val (.int (2 : Int32)), .val (.int (1 : Int32))] [(.int (2 : Int32)), (.int (1 : Int32))]))
  refine own_st (fun _ => XS.icmpNo X0.here hx rfl (hb hby own_dsh2_12) rfl (tlt (by decide : (1 : Int32) < (2 : Int32))).2.1) ?_
  show own_End p e below P (s₁.setTop (mkF m 15 #[.val (.int ((0 : Int32) + (c0 &&& (255 : Int32)))), .val (.ref o1), .val (.int (0 : Int32)), .val (.int (2 : Int32)), .val (.int (2 : Int32)), .val (.int (1 : Int32))] []))
  refine own_st (fun _ => XS.bipush X0.here hx rfl (hb hby own_dsh2_15)) ?_
  show own_End p e below P (s₁.setTop (mkF m 17 #[.val (.int ((0 : Int32) + (c0 &&& (255 : Int32)))), .val (.ref o1), .val (.int (0 : Int32)), .val (.int (2 : Int32)), .val (.int (2 : Int32)), .val (.int (1 : Int32))] [(.int (31 : Int32))]))
  refine own_st (fun _ => XS.iloadN X0.here hx rfl (hb hby own_dsh2_17) rfl) ?_
  show own_End p e below P (s₁.setTop (mkF m 18 #[.val (.int ((0 : Int32) + (c0 &&& (255 : Int32)))), .val (.ref o1), .val (.int (0 : Int32)), .val (.int (2 : Int32)), .val (.int (2 : Int32)), .val (.int (1 : Int32))] [(.int ((0 : Int32) + (c0 &&& (255 : Int32)))), (.int (31 : Int32))]))
  refine own_st (fun _ => XS.imul X0.here hx rfl (hb hby own_dsh2_18) rfl) ?_
  show own_End p e below P (s₁.setTop (mkF m 19 #[.val (.int ((0 : Int32) + (c0 &&& (255 : Int32)))), .val (.ref o1), .val (.int (0 : Int32)), .val (.int (2 : Int32)), .val (.int (2 : Int32)), .val (.int (1 : Int32))] [(.int ((31 : Int32) * ((0 : Int32) + (c0 &&& (255 : Int32)))))]))
  refine own_st (fun _ => XS.aloadN X0.here hx rfl (hb hby own_dsh2_19) rfl rfl) ?_
  show own_End p e below P (s₁.setTop (mkF m 20 #[.val (.int ((0 : Int32) + (c0 &&& (255 : Int32)))), .val (.ref o1), .val (.int (0 : Int32)), .val (.int (2 : Int32)), .val (.int (2 : Int32)), .val (.int (1 : Int32))] [(.ref o1), (.int ((31 : Int32) * ((0 : Int32) + (c0 &&& (255 : Int32)))))]))
  refine own_st (fun _ => XS.iload X0.here hx rfl (hb hby own_dsh2_20) rfl) ?_
  show own_End p e below P (s₁.setTop (mkF m 22 #[.val (.int ((0 : Int32) + (c0 &&& (255 : Int32)))), .val (.ref o1), .val (.int (0 : Int32)), .val (.int (2 : Int32)), .val (.int (2 : Int32)), .val (.int (1 : Int32))] [(.int (1 : Int32)), (.ref o1), (.int ((31 : Int32) * ((0 : Int32) + (c0 &&& (255 : Int32)))))]))
  refine own_baload X0 hx hZ e0 A_o1 (j := (1 : Int32)) (v := c1) (i := 1) (by decide) rfl (g := (mkF m 22 #[.val (.int ((0 : Int32) + (c0 &&& (255 : Int32)))), .val (.ref o1), .val (.int (0 : Int32)), .val (.int (2 : Int32)), .val (.int (2 : Int32)), .val (.int (1 : Int32))] [(.int (1 : Int32)), (.ref o1), (.int ((31 : Int32) * ((0 : Int32) + (c0 &&& (255 : Int32)))))])) rfl rfl (hb hby own_dsh2_22) ?_
  show own_End p e below P (s₁.setTop (mkF m 23 #[.val (.int ((0 : Int32) + (c0 &&& (255 : Int32)))), .val (.ref o1), .val (.int (0 : Int32)), .val (.int (2 : Int32)), .val (.int (2 : Int32)), .val (.int (1 : Int32))] [(.int c1), (.int ((31 : Int32) * ((0 : Int32) + (c0 &&& (255 : Int32)))))]))
  refine own_st (fun _ => XS.sipush X0.here hx rfl (hb hby own_dsh2_23)) ?_
  show own_End p e below P (s₁.setTop (mkF m 26 #[.val (.int ((0 : Int32) + (c0 &&& (255 : Int32)))), .val (.ref o1), .val (.int (0 : Int32)), .val (.int (2 : Int32)), .val (.int (2 : Int32)), .val (.int (1 : Int32))] [(.int (255 : Int32)), (.int c1), (.int ((31 : Int32) * ((0 : Int32) + (c0 &&& (255 : Int32)))))]))
  refine own_st (fun _ => XS.iand X0.here hx rfl (hb hby own_dsh2_26) rfl) ?_
  show own_End p e below P (s₁.setTop (mkF m 27 #[.val (.int ((0 : Int32) + (c0 &&& (255 : Int32)))), .val (.ref o1), .val (.int (0 : Int32)), .val (.int (2 : Int32)), .val (.int (2 : Int32)), .val (.int (1 : Int32))] [(.int (c1 &&& (255 : Int32))), (.int ((31 : Int32) * ((0 : Int32) + (c0 &&& (255 : Int32)))))]))
  refine own_st (fun _ => XS.iadd X0.here hx rfl (hb hby own_dsh2_27) rfl) ?_
  show own_End p e below P (s₁.setTop (mkF m 28 #[.val (.int ((0 : Int32) + (c0 &&& (255 : Int32)))), .val (.ref o1), .val (.int (0 : Int32)), .val (.int (2 : Int32)), .val (.int (2 : Int32)), .val (.int (1 : Int32))] [(.int (((31 : Int32) * ((0 : Int32) + (c0 &&& (255 : Int32)))) + (c1 &&& (255 : Int32))))]))
  refine own_st (fun _ => XS.istoreN X0.here hx rfl (hb hby own_dsh2_28) rfl (l' := #[.val (.int (((31 : Int32) * ((0 : Int32) + (c0 &&& (255 : Int32)))) + (c1 &&& (255 : Int32)))), .val (.ref o1), .val (.int (0 : Int32)), .val (.int (2 : Int32)), .val (.int (2 : Int32)), .val (.int (1 : Int32))]) rfl) ?_
  show own_End p e below P (s₁.setTop (mkF m 29 #[.val (.int (((31 : Int32) * ((0 : Int32) + (c0 &&& (255 : Int32)))) + (c1 &&& (255 : Int32)))), .val (.ref o1), .val (.int (0 : Int32)), .val (.int (2 : Int32)), .val (.int (2 : Int32)), .val (.int (1 : Int32))] []))
  refine own_st (fun _ => XS.iinc X0.here hx rfl (hb hby own_dsh2_29) rfl (l' := #[.val (.int (((31 : Int32) * ((0 : Int32) + (c0 &&& (255 : Int32)))) + (c1 &&& (255 : Int32)))), .val (.ref o1), .val (.int (0 : Int32)), .val (.int (2 : Int32)), .val (.int (2 : Int32)), .val (.int (2 : Int32))]) rfl) ?_
  show own_End p e below P (s₁.setTop (mkF m 32 #[.val (.int (((31 : Int32) * ((0 : Int32) + (c0 &&& (255 : Int32)))) + (c1 &&& (255 : Int32)))), .val (.ref o1), .val (.int (0 : Int32)), .val (.int (2 : Int32)), .val (.int (2 : Int32)), .val (.int (2 : Int32))] []))
  refine own_st (fun _ => XS.goto X0.here hx rfl (pc0 := 32) (pc' := 8) rfl (hb hby own_dsh2_32) (by decide) (by decide)) ?_
  show own_End p e below P (s₁.setTop (mkF m 8 #[.val (.int (((31 : Int32) * ((0 : Int32) + (c0 &&& (255 : Int32)))) + (c1 &&& (255 : Int32)))), .val (.ref o1), .val (.int (0 : Int32)), .val (.int (2 : Int32)), .val (.int (2 : Int32)), .val (.int (2 : Int32))] []))
  refine own_st (fun _ => XS.iload X0.here hx rfl (hb hby own_dsh2_8) rfl) ?_
  show own_End p e below P (s₁.setTop (mkF m 10 #[.val (.int (((31 : Int32) * ((0 : Int32) + (c0 &&& (255 : Int32)))) + (c1 &&& (255 : Int32)))), .val (.ref o1), .val (.int (0 : Int32)), .val (.int (2 : Int32)), .val (.int (2 : Int32)), .val (.int (2 : Int32))] [(.int (2 : Int32))]))
  refine own_st (fun _ => XS.iload X0.here hx rfl (hb hby own_dsh2_10) rfl) ?_
  show own_End p e below P (s₁.setTop (mkF m 12 #[.val (.int (((31 : Int32) * ((0 : Int32) + (c0 &&& (255 : Int32)))) + (c1 &&& (255 : Int32)))), .val (.ref o1), .val (.int (0 : Int32)), .val (.int (2 : Int32)), .val (.int (2 : Int32)), .val (.int (2 : Int32))] [(.int (2 : Int32)), (.int (2 : Int32))]))
  refine own_st (fun _ => XS.icmpYes X0.here hx rfl (pc0 := 12) (pc' := 35) rfl (hb hby own_dsh2_12) rfl (flt (by decide : ¬ ((2 : Int32) < (2 : Int32)))).2.1 (by decide) (by decide)) ?_
  show own_End p e below P (s₁.setTop (mkF m 35 #[.val (.int (((31 : Int32) * ((0 : Int32) + (c0 &&& (255 : Int32)))) + (c1 &&& (255 : Int32)))), .val (.ref o1), .val (.int (0 : Int32)), .val (.int (2 : Int32)), .val (.int (2 : Int32)), .val (.int (2 : Int32))] []))
  refine own_st (fun _ => XS.iloadN X0.here hx rfl (hb hby own_dsh2_35) rfl) ?_
  show own_End p e below P (s₁.setTop (mkF m 36 #[.val (.int (((31 : Int32) * ((0 : Int32) + (c0 &&& (255 : Int32)))) + (c1 &&& (255 : Int32)))), .val (.ref o1), .val (.int (0 : Int32)), .val (.int (2 : Int32)), .val (.int (2 : Int32)), .val (.int (2 : Int32))] [(.int (((31 : Int32) * ((0 : Int32) + (c0 &&& (255 : Int32)))) + (c1 &&& (255 : Int32))))]))
  refine own_retI X0 hx hlk hP hrt (hb hby own_dsh2_36) (by decide) (by decide) ⟨congrArg (fun z => some (Value.int z)) ?_, N0, e0⟩
  exact (show own_fsh2 c0 c1 = (((31 : Int32) * ((0 : Int32) + (c0 &&& (255 : Int32)))) + (c1 &&& (255 : Int32))) from rfl).symm
theorem own_dvh2_0 : decode jdk_48_method_4_code 0 = .ok (.iload 4, 2) := by decide +kernel
theorem own_dvh2_2 : decode jdk_48_method_4_code 2 = .ok (.tableswitch 127 4 10 #[42, 55, 127, 127, 88, 101, 114], 42) := by decide +kernel
theorem own_dvh2_44 : decode jdk_48_method_4_code 44 = .ok (.iload_n 3, 1) := by decide +kernel
theorem own_dvh2_45 : decode jdk_48_method_4_code 45 = .ok (.aload_n 0, 1) := by decide +kernel
theorem own_dvh2_46 : decode jdk_48_method_4_code 46 = .ok (.checkcast 60, 3) := by decide +kernel
theorem own_dvh2_49 : decode jdk_48_method_4_code 49 = .ok (.iload_n 1, 1) := by decide +kernel
theorem own_dvh2_50 : decode jdk_48_method_4_code 50 = .ok (.iload_n 2, 1) := by decide +kernel
theorem own_dvh2_51 : decode jdk_48_method_4_code 51 = .ok (.invokestatic 62, 3) := by decide +kernel
theorem own_pd_I_BII_I_530 : parseMethodDescriptor "(I[BII)I" = some ⟨[.int, (.array .byte), .int, .int], some .int⟩ := by decide +kernel
theorem own_dvh2_54 : decode jdk_48_method_4_code 54 = .ok (.goto 103, 3) := by decide +kernel
theorem own_dvh2_157 : decode jdk_48_method_4_code 157 = .ok (.ireturn, 1) := by decide +kernel
theorem own_efvh2 (m : MethodId) (o0 : Addr) : entryFrame m #[(.ref o0), (.int (0 : Int32)), (.int (2 : Int32)), (.int (0 : Int32)), (.int (4 : Int32))] 5 = mkF m 0 #[.val (.ref o0), .val (.int (0 : Int32)), .val (.int (2 : Int32)), .val (.int (0 : Int32)), .val (.int (4 : Int32))] [] := by first | (simp [entryFrame, mkF, argsToLocals, Value.category]; done) | rfl
def own_fvh2 (c0 : Int32) (c1 : Int32) : Int32 := (own_fsh2 c0 c1)
set_option maxRecDepth 65536 in
set_option maxHeartbeats 40000000 in
theorem own_mvh2 (l : Launch) (Z : State) (a0 : Array Value) (hw : ∀ d ∈ tables_1, d.before a0 Z = true) (ws : List Jvm.Cond) (o0 : Addr) (c0 : Int32) (c1 : Int32) (h0 : Heap) (n0 : Nat) (Z0 : n0 ≤ h0.size) (A_o0 : own_BA Z h0 o0 [c0, c1]) :
    own_Met l Z (⟨"jdk/internal/util/ArraysSupport", "vectorizedHashCode", "(Ljava/lang/Object;IIII)I"⟩ : MethodName) jdk_48_method_4_code 5 (some .int) ws ({ frames := 1, cells := 0, slots := 0, locals := 17 } : Room) #[(.ref o0), (.int (0 : Int32)), (.int (2 : Int32)), (.int (0 : Int32)), (.int (4 : Int32))] h0 (fun (v : Option Value) (h : Heap) (L : List Loc) => v = some (.int (own_fvh2 c0 c1)) ∧ Fr n0 L ∧ h = h0) := by
  refine own_enter (plainFor_of_name own_pn_jdk_internal_util_ArraysSupport) ?_
  intro p e s m below meth c s₁ P hx hby hml hrt hlk hown hnm hZ X0 e0 hP
  have N0 := Fr.nil n0
  have K0 := Keep.refl h0 []
  have hml' : c.maxLocals = 5 := hml
  refine own_cast (own_efvh2 m o0) ?_
  show own_End p e below P (s₁.setTop (mkF m 0 #[.val (.ref o0), .val (.int (0 : Int32)), .val (.int (2 : Int32)), .val (.int (0 : Int32)), .val (.int (4 : Int32))] []))
  refine own_st (fun _ => XS.iload X0.here hx rfl (hb hby own_dvh2_0) rfl) ?_
  show own_End p e below P (s₁.setTop (mkF m 2 #[.val (.ref o0), .val (.int (0 : Int32)), .val (.int (2 : Int32)), .val (.int (0 : Int32)), .val (.int (4 : Int32))] [(.int (4 : Int32))]))
  refine own_tsw X0 hx (pc := 2) (pc' := 44) (o := 42) (i := (4 : Int32)) (hb hby own_dvh2_2) (by decide +kernel) (by decide +kernel) (by decide) (by decide) ?_
  show own_End p e below P (s₁.setTop (mkF m 44 #[.val (.ref o0), .val (.int (0 : Int32)), .val (.int (2 : Int32)), .val (.int (0 : Int32)), .val (.int (4 : Int32))] []))
  refine own_st (fun _ => XS.iloadN X0.here hx rfl (hb hby own_dvh2_44) rfl) ?_
  show own_End p e below P (s₁.setTop (mkF m 45 #[.val (.ref o0), .val (.int (0 : Int32)), .val (.int (2 : Int32)), .val (.int (0 : Int32)), .val (.int (4 : Int32))] [(.int (0 : Int32))]))
  refine own_st (fun _ => XS.aloadN X0.here hx rfl (hb hby own_dvh2_45) rfl rfl) ?_
  show own_End p e below P (s₁.setTop (mkF m 46 #[.val (.ref o0), .val (.int (0 : Int32)), .val (.int (2 : Int32)), .val (.int (0 : Int32)), .val (.int (4 : Int32))] [(.ref o0), (.int (0 : Int32))]))
  obtain ⟨T1, X1, e1, st1⟩ := castY X0 hx hZ hown (hw _ (List.mem_of_getElem? (i := 103) rfl)) e0 (own_BA.ins A_o0 (by simp)) (g := (mkF m 46 #[.val (.ref o0), .val (.int (0 : Int32)), .val (.int (2 : Int32)), .val (.int (0 : Int32)), .val (.int (4 : Int32))] [(.ref o0), (.int (0 : Int32))])) rfl rfl (hb hby own_dvh2_46)
  refine own_st (fun _ => st1 _) ?_
  show own_End p e below P (T1.setTop (mkF m 49 #[.val (.ref o0), .val (.int (0 : Int32)), .val (.int (2 : Int32)), .val (.int (0 : Int32)), .val (.int (4 : Int32))] [(.ref o0), (.int (0 : Int32))]))
  refine own_st (fun _ => XS.iloadN X1.here hx rfl (hb hby own_dvh2_49) rfl) ?_
  show own_End p e below P (T1.setTop (mkF m 50 #[.val (.ref o0), .val (.int (0 : Int32)), .val (.int (2 : Int32)), .val (.int (0 : Int32)), .val (.int (4 : Int32))] [(.int (0 : Int32)), (.ref o0), (.int (0 : Int32))]))
  refine own_st (fun _ => XS.iloadN X1.here hx rfl (hb hby own_dvh2_50) rfl) ?_
  show own_End p e below P (T1.setTop (mkF m 51 #[.val (.ref o0), .val (.int (0 : Int32)), .val (.int (2 : Int32)), .val (.int (0 : Int32)), .val (.int (4 : Int32))] [(.int (2 : Int32)), (.int (0 : Int32)), (.ref o0), (.int (0 : Int32))]))
  refine own_callS X1 hx hZ (y := (⟨"jdk/internal/util/ArraysSupport", "signedHashCode", "(I[BII)I"⟩ : MethodName)) hown (hw _ (List.mem_of_getElem? (i := 105) rfl)) (hw _ (List.mem_of_getElem? (i := 106) rfl)) (hw _ (List.mem_of_getElem? (i := 101) rfl)) (hw _ (List.mem_of_getElem? (i := 107) rfl)) (by decide) (own_msh2 l Z a0 hw [] o0 c0 c1 h0 n0 (Nat.le_trans Z0 K0.1) A_o0) 0 (by decide) (by decide) e1 (by decide) (by decide) (g := (mkF m 51 #[.val (.ref o0), .val (.int (0 : Int32)), .val (.int (2 : Int32)), .val (.int (0 : Int32)), .val (.int (4 : Int32))] [(.int (2 : Int32)), (.int (0 : Int32)), (.ref o0), (.int (0 : Int32))])) rfl (by rw [hml']; rfl) (argsL := [(.int (0 : Int32)), (.ref o0), (.int (0 : Int32)), (.int (2 : Int32))]) (rest := []) rfl (lenOf own_pd_I_BII_I_530 rfl) rfl (by show 2 * 0 + _ ≤ _; exact Nat.le_of_eq rfl) (hb hby own_dvh2_51) (fun r2 T2 L2 X2 hQ2 => ?_)
  obtain ⟨rfl, Nq2, eq2⟩ := hQ2
  have N2 := Fr.app N0 Nq2
  show own_End p e below P (T2.setTop (mkF m 54 #[.val (.ref o0), .val (.int (0 : Int32)), .val (.int (2 : Int32)), .val (.int (0 : Int32)), .val (.int (4 : Int32))] [(.int (own_fsh2 c0 c1))]))
  refine own_st (fun _ => XS.goto X2.here hx rfl (pc0 := 54) (pc' := 157) rfl (hb hby own_dvh2_54) (by decide) (by decide)) ?_
  show own_End p e below P (T2.setTop (mkF m 157 #[.val (.ref o0), .val (.int (0 : Int32)), .val (.int (2 : Int32)), .val (.int (0 : Int32)), .val (.int (4 : Int32))] [(.int (own_fsh2 c0 c1))]))
  refine own_retI X2 hx hlk hP hrt (hb hby own_dvh2_157) (by decide) (by decide) ⟨congrArg (fun z => some (Value.int z)) ?_, N2, eq2⟩
  exact (show own_fvh2 c0 c1 = (own_fsh2 c0 c1) from rfl).symm
theorem own_dsh3_0 : decode jdk_48_method_5_code 0 = .ok (.iload_n 2, 1) := by decide +kernel
theorem own_dsh3_1 : decode jdk_48_method_5_code 1 = .ok (.iload_n 3, 1) := by decide +kernel
theorem own_dsh3_2 : decode jdk_48_method_5_code 2 = .ok (.iadd, 1) := by decide +kernel
theorem own_dsh3_3 : decode jdk_48_method_5_code 3 = .ok (.istore 4, 2) := by decide +kernel
theorem own_dsh3_5 : decode jdk_48_method_5_code 5 = .ok (.iload_n 2, 1) := by decide +kernel
theorem own_dsh3_6 : decode jdk_48_method_5_code 6 = .ok (.istore 5, 2) := by decide +kernel
theorem own_dsh3_8 : decode jdk_48_method_5_code 8 = .ok (.iload 5, 2) := by decide +kernel
theorem own_dsh3_10 : decode jdk_48_method_5_code 10 = .ok (.iload 4, 2) := by decide +kernel
theorem own_dsh3_12 : decode jdk_48_method_5_code 12 = .ok (.if_icmp .ge 23, 3) := by decide +kernel
theorem own_dsh3_15 : decode jdk_48_method_5_code 15 = .ok (.bipush 31, 2) := by decide +kernel
theorem own_dsh3_17 : decode jdk_48_method_5_code 17 = .ok (.iload_n 0, 1) := by decide +kernel
theorem own_dsh3_18 : decode jdk_48_method_5_code 18 = .ok (.imul, 1) := by decide +kernel
theorem own_dsh3_19 : decode jdk_48_method_5_code 19 = .ok (.aload_n 1, 1) := by decide +kernel
theorem own_dsh3_20 : decode jdk_48_method_5_code 20 = .ok (.iload 5, 2) := by decide +kernel
theorem own_dsh3_22 : decode jdk_48_method_5_code 22 = .ok (.baload, 1) := by decide +kernel
theorem own_dsh3_23 : decode jdk_48_method_5_code 23 = .ok (.sipush 255, 3) := by decide +kernel
theorem own_dsh3_26 : decode jdk_48_method_5_code 26 = .ok (.iand, 1) := by decide +kernel
theorem own_dsh3_27 : decode jdk_48_method_5_code 27 = .ok (.iadd, 1) := by decide +kernel
theorem own_dsh3_28 : decode jdk_48_method_5_code 28 = .ok (.istore_n 0, 1) := by decide +kernel
theorem own_dsh3_29 : decode jdk_48_method_5_code 29 = .ok (.iinc 5 1, 3) := by decide +kernel
theorem own_dsh3_32 : decode jdk_48_method_5_code 32 = .ok (.goto (-24), 3) := by decide +kernel
theorem own_dsh3_35 : decode jdk_48_method_5_code 35 = .ok (.iload_n 0, 1) := by decide +kernel
theorem own_dsh3_36 : decode jdk_48_method_5_code 36 = .ok (.ireturn, 1) := by decide +kernel
theorem own_efsh3 (m : MethodId) (o1 : Addr) : entryFrame m #[(.int (0 : Int32)), (.ref o1), (.int (0 : Int32)), (.int (3 : Int32))] 6 = mkF m 0 #[.val (.int (0 : Int32)), .val (.ref o1), .val (.int (0 : Int32)), .val (.int (3 : Int32)), .unset, .unset] [] := by first | (simp [entryFrame, mkF, argsToLocals, Value.category]; done) | rfl
def own_fsh3 (c0 : Int32) (c1 : Int32) (c2 : Int32) : Int32 := (((31 : Int32) * (((31 : Int32) * ((0 : Int32) + (c0 &&& (255 : Int32)))) + (c1 &&& (255 : Int32)))) + (c2 &&& (255 : Int32)))
set_option maxRecDepth 65536 in
set_option maxHeartbeats 40000000 in
theorem own_msh3 (l : Launch) (Z : State) (a0 : Array Value) (hw : ∀ d ∈ tables_1, d.before a0 Z = true) (ws : List Jvm.Cond) (o1 : Addr) (c0 : Int32) (c1 : Int32) (c2 : Int32) (h0 : Heap) (n0 : Nat) (Z0 : n0 ≤ h0.size) (A_o1 : own_BA Z h0 o1 [c0, c1, c2]) :
    own_Met l Z (⟨"jdk/internal/util/ArraysSupport", "signedHashCode", "(I[BII)I"⟩ : MethodName) jdk_48_method_5_code 6 (some .int) ws ({ frames := 0, cells := 0, slots := 0, locals := 0 } : Room) #[(.int (0 : Int32)), (.ref o1), (.int (0 : Int32)), (.int (3 : Int32))] h0 (fun (v : Option Value) (h : Heap) (L : List Loc) => v = some (.int (own_fsh3 c0 c1 c2)) ∧ Fr n0 L ∧ h = h0) := by
  refine own_enter (plainFor_of_name own_pn_jdk_internal_util_ArraysSupport) ?_
  intro p e s m below meth c s₁ P hx hby hml hrt hlk hown hnm hZ X0 e0 hP
  have N0 := Fr.nil n0
  have K0 := Keep.refl h0 []
  have hml' : c.maxLocals = 6 := hml
  refine own_cast (own_efsh3 m o1) ?_
  show own_End p e below P (s₁.setTop (mkF m 0 #[.val (.int (0 : Int32)), .val (.ref o1), .val (.int (0 : Int32)), .val (.int (3 : Int32)), .unset, .unset] []))
  refine own_st (fun _ => XS.iloadN X0.here hx rfl (hb hby own_dsh3_0) rfl) ?_
  show own_End p e below P (s₁.setTop (mkF m 1 #[.val (.int (0 : Int32)), .val (.ref o1), .val (.int (0 : Int32)), .val (.int (3 : Int32)), .unset, .unset] [(.int (0 : Int32))]))
  refine own_st (fun _ => XS.iloadN X0.here hx rfl (hb hby own_dsh3_1) rfl) ?_
  show own_End p e below P (s₁.setTop (mkF m 2 #[.val (.int (0 : Int32)), .val (.ref o1), .val (.int (0 : Int32)), .val (.int (3 : Int32)), .unset, .unset] [(.int (3 : Int32)), (.int (0 : Int32))]))
  refine own_st (fun _ => XS.iadd X0.here hx rfl (hb hby own_dsh3_2) rfl) ?_
  show own_End p e below P (s₁.setTop (mkF m 3 #[.val (.int (0 : Int32)), .val (.ref o1), .val (.int (0 : Int32)), .val (.int (3 : Int32)), .unset, .unset] [(.int (3 : Int32))]))
  refine own_st (fun _ => XS.istore X0.here hx rfl (hb hby own_dsh3_3) rfl (l' := #[.val (.int (0 : Int32)), .val (.ref o1), .val (.int (0 : Int32)), .val (.int (3 : Int32)), .val (.int (3 : Int32)), .unset]) rfl) ?_
  show own_End p e below P (s₁.setTop (mkF m 5 #[.val (.int (0 : Int32)), .val (.ref o1), .val (.int (0 : Int32)), .val (.int (3 : Int32)), .val (.int (3 : Int32)), .unset] []))
  refine own_st (fun _ => XS.iloadN X0.here hx rfl (hb hby own_dsh3_5) rfl) ?_
  show own_End p e below P (s₁.setTop (mkF m 6 #[.val (.int (0 : Int32)), .val (.ref o1), .val (.int (0 : Int32)), .val (.int (3 : Int32)), .val (.int (3 : Int32)), .unset] [(.int (0 : Int32))]))
  refine own_st (fun _ => XS.istore X0.here hx rfl (hb hby own_dsh3_6) rfl (l' := #[.val (.int (0 : Int32)), .val (.ref o1), .val (.int (0 : Int32)), .val (.int (3 : Int32)), .val (.int (3 : Int32)), .val (.int (0 : Int32))]) rfl) ?_
  show own_End p e below P (s₁.setTop (mkF m 8 #[.val (.int (0 : Int32)), .val (.ref o1), .val (.int (0 : Int32)), .val (.int (3 : Int32)), .val (.int (3 : Int32)), .val (.int (0 : Int32))] []))
  refine own_st (fun _ => XS.iload X0.here hx rfl (hb hby own_dsh3_8) rfl) ?_
  show own_End p e below P (s₁.setTop (mkF m 10 #[.val (.int (0 : Int32)), .val (.ref o1), .val (.int (0 : Int32)), .val (.int (3 : Int32)), .val (.int (3 : Int32)), .val (.int (0 : Int32))] [(.int (0 : Int32))]))
  refine own_st (fun _ => XS.iload X0.here hx rfl (hb hby own_dsh3_10) rfl) ?_
  show own_End p e below P (s₁.setTop (mkF m 12 #[.val (.int (0 : Int32)), .val (.ref o1), .val (.int (0 : Int32)), .val (.int (3 : Int32)), .val (.int (3 : Int32)), .val (.int (0 : Int32))] [(.int (3 : Int32)), (.int (0 : Int32))]))
  refine own_st (fun _ => XS.icmpNo X0.here hx rfl (hb hby own_dsh3_12) rfl (tlt (by decide : (0 : Int32) < (3 : Int32))).2.1) ?_
  show own_End p e below P (s₁.setTop (mkF m 15 #[.val (.int (0 : Int32)), .val (.ref o1), .val (.int (0 : Int32)), .val (.int (3 : Int32)), .val (.int (3 : Int32)), .val (.int (0 : Int32))] []))
  refine own_st (fun _ => XS.bipush X0.here hx rfl (hb hby own_dsh3_15)) ?_
  show own_End p e below P (s₁.setTop (mkF m 17 #[.val (.int (0 : Int32)), .val (.ref o1), .val (.int (0 : Int32)), .val (.int (3 : Int32)), .val (.int (3 : Int32)), .val (.int (0 : Int32))] [(.int (31 : Int32))]))
  refine own_st (fun _ => XS.iloadN X0.here hx rfl (hb hby own_dsh3_17) rfl) ?_
  show own_End p e below P (s₁.setTop (mkF m 18 #[.val (.int (0 : Int32)), .val (.ref o1), .val (.int (0 : Int32)), .val (.int (3 : Int32)), .val (.int (3 : Int32)), .val (.int (0 : Int32))] [(.int (0 : Int32)), (.int (31 : Int32))]))
  refine own_st (fun _ => XS.imul X0.here hx rfl (hb hby own_dsh3_18) rfl) ?_
  show own_End p e below P (s₁.setTop (mkF m 19 #[.val (.int (0 : Int32)), .val (.ref o1), .val (.int (0 : Int32)), .val (.int (3 : Int32)), .val (.int (3 : Int32)), .val (.int (0 : Int32))] [(.int (0 : Int32))]))
  refine own_st (fun _ => XS.aloadN X0.here hx rfl (hb hby own_dsh3_19) rfl rfl) ?_
  show own_End p e below P (s₁.setTop (mkF m 20 #[.val (.int (0 : Int32)), .val (.ref o1), .val (.int (0 : Int32)), .val (.int (3 : Int32)), .val (.int (3 : Int32)), .val (.int (0 : Int32))] [(.ref o1), (.int (0 : Int32))]))
  refine own_st (fun _ => XS.iload X0.here hx rfl (hb hby own_dsh3_20) rfl) ?_
  show own_End p e below P (s₁.setTop (mkF m 22 #[.val (.int (0 : Int32)), .val (.ref o1), .val (.int (0 : Int32)), .val (.int (3 : Int32)), .val (.int (3 : Int32)), .val (.int (0 : Int32))] [(.int (0 : Int32)), (.ref o1), (.int (0 : Int32))]))
  refine own_baload X0 hx hZ e0 A_o1 (j := (0 : Int32)) (v := c0) (i := 0) (by decide) rfl (g := (mkF m 22 #[.val (.int (0 : Int32)), .val (.ref o1), .val (.int (0 : Int32)), .val (.int (3 : Int32)), .val (.int (3 : Int32)), .val (.int (0 : Int32))] [(.int (0 : Int32)), (.ref o1), (.int (0 : Int32))])) rfl rfl (hb hby own_dsh3_22) ?_
  show own_End p e below P (s₁.setTop (mkF m 23 #[.val (.int (0 : Int32)), .val (.ref o1), .val (.int (0 : Int32)), .val (.int (3 : Int32)), .val (.int (3 : Int32)), .val (.int (0 : Int32))] [(.int c0), (.int (0 : Int32))]))
  refine own_st (fun _ => XS.sipush X0.here hx rfl (hb hby own_dsh3_23)) ?_
  show own_End p e below P (s₁.setTop (mkF m 26 #[.val (.int (0 : Int32)), .val (.ref o1), .val (.int (0 : Int32)), .val (.int (3 : Int32)), .val (.int (3 : Int32)), .val (.int (0 : Int32))] [(.int (255 : Int32)), (.int c0), (.int (0 : Int32))]))
  refine own_st (fun _ => XS.iand X0.here hx rfl (hb hby own_dsh3_26) rfl) ?_
  show own_End p e below P (s₁.setTop (mkF m 27 #[.val (.int (0 : Int32)), .val (.ref o1), .val (.int (0 : Int32)), .val (.int (3 : Int32)), .val (.int (3 : Int32)), .val (.int (0 : Int32))] [(.int (c0 &&& (255 : Int32))), (.int (0 : Int32))]))
  refine own_st (fun _ => XS.iadd X0.here hx rfl (hb hby own_dsh3_27) rfl) ?_
  show own_End p e below P (s₁.setTop (mkF m 28 #[.val (.int (0 : Int32)), .val (.ref o1), .val (.int (0 : Int32)), .val (.int (3 : Int32)), .val (.int (3 : Int32)), .val (.int (0 : Int32))] [(.int ((0 : Int32) + (c0 &&& (255 : Int32))))]))
  refine own_st (fun _ => XS.istoreN X0.here hx rfl (hb hby own_dsh3_28) rfl (l' := #[.val (.int ((0 : Int32) + (c0 &&& (255 : Int32)))), .val (.ref o1), .val (.int (0 : Int32)), .val (.int (3 : Int32)), .val (.int (3 : Int32)), .val (.int (0 : Int32))]) rfl) ?_
  show own_End p e below P (s₁.setTop (mkF m 29 #[.val (.int ((0 : Int32) + (c0 &&& (255 : Int32)))), .val (.ref o1), .val (.int (0 : Int32)), .val (.int (3 : Int32)), .val (.int (3 : Int32)), .val (.int (0 : Int32))] []))
  refine own_st (fun _ => XS.iinc X0.here hx rfl (hb hby own_dsh3_29) rfl (l' := #[.val (.int ((0 : Int32) + (c0 &&& (255 : Int32)))), .val (.ref o1), .val (.int (0 : Int32)), .val (.int (3 : Int32)), .val (.int (3 : Int32)), .val (.int (1 : Int32))]) rfl) ?_
  show own_End p e below P (s₁.setTop (mkF m 32 #[.val (.int ((0 : Int32) + (c0 &&& (255 : Int32)))), .val (.ref o1), .val (.int (0 : Int32)), .val (.int (3 : Int32)), .val (.int (3 : Int32)), .val (.int (1 : Int32))] []))
  refine own_st (fun _ => XS.goto X0.here hx rfl (pc0 := 32) (pc' := 8) rfl (hb hby own_dsh3_32) (by decide) (by decide)) ?_
  show own_End p e below P (s₁.setTop (mkF m 8 #[.val (.int ((0 : Int32) + (c0 &&& (255 : Int32)))), .val (.ref o1), .val (.int (0 : Int32)), .val (.int (3 : Int32)), .val (.int (3 : Int32)), .val (.int (1 : Int32))] []))
  refine own_st (fun _ => XS.iload X0.here hx rfl (hb hby own_dsh3_8) rfl) ?_
  show own_End p e below P (s₁.setTop (mkF m 10 #[.val (.int ((0 : Int32) + (c0 &&& (255 : Int32)))), .val (.ref o1), .val (.int (0 : Int32)), .val (.int (3 : Int32)), .val (.int (3 : Int32)), .val (.int (1 : Int32))] [(.int (1 : Int32))]))
  refine own_st (fun _ => XS.iload X0.here hx rfl (hb hby own_dsh3_10) rfl) ?_
  show own_End p e below P (s₁.setTop (mkF m 12 #[.val (.int ((0 : Int32) + (c0 &&& (255 : Int32)))), .val (.ref o1), .val (.int (0 : Int32)), .val (.int (3 : Int32)), .val (.int (3 : Int32)), .val (.int (1 : Int32))] [(.int (3 : Int32)), (.int (1 : Int32))]))
  refine own_st (fun _ => XS.icmpNo X0.here hx rfl (hb hby own_dsh3_12) rfl (tlt (by decide : (1 : Int32) < (3 : Int32))).2.1) ?_
  show own_End p e below P (s₁.setTop (mkF m 15 #[.val (.int ((0 : Int32) + (c0 &&& (255 : Int32)))), .val (.ref o1), .val (.int (0 : Int32)), .val (.int (3 : Int32)), .val (.int (3 : Int32)), .val (.int (1 : Int32))] []))
  refine own_st (fun _ => XS.bipush X0.here hx rfl (hb hby own_dsh3_15)) ?_
  show own_End p e below P (s₁.setTop (mkF m 17 #[.val (.int ((0 : Int32) + (c0 &&& (255 : Int32)))), .val (.ref o1), .val (.int (0 : Int32)), .val (.int (3 : Int32)), .val (.int (3 : Int32)), .val (.int (1 : Int32))] [(.int (31 : Int32))]))
  refine own_st (fun _ => XS.iloadN X0.here hx rfl (hb hby own_dsh3_17) rfl) ?_
  show own_End p e below P (s₁.setTop (mkF m 18 #[.val (.int ((0 : Int32) + (c0 &&& (255 : Int32)))), .val (.ref o1), .val (.int (0 : Int32)), .val (.int (3 : Int32)), .val (.int (3 : Int32)), .val (.int (1 : Int32))] [(.int ((0 : Int32) + (c0 &&& (255 : Int32)))), (.int (31 : Int32))]))
  refine own_st (fun _ => XS.imul X0.here hx rfl (hb hby own_dsh3_18) rfl) ?_
  show own_End p e below P (s₁.setTop (mkF m 19 #[.val (.int ((0 : Int32) + (c0 &&& (255 : Int32)))), .val (.ref o1), .val (.int (0 : Int32)), .val (.int (3 : Int32)), .val (.int (3 : Int32)), .val (.int (1 : Int32))] [(.int ((31 : Int32) * ((0 : Int32) + (c0 &&& (255 : Int32)))))]))
  refine own_st (fun _ => XS.aloadN X0.here hx rfl (hb hby own_dsh3_19) rfl rfl) ?_
  show own_End p e below P (s₁.setTop (mkF m 20 #[.val (.int ((0 : Int32) + (c0 &&& (255 : Int32)))), .val (.ref o1), .val (.int (0 : Int32)), .val (.int (3 : Int32)), .val (.int (3 : Int32)), .val (.int (1 : Int32))] [(.ref o1), (.int ((31 : Int32) * ((0 : Int32) + (c0 &&& (255 : Int32)))))]))
  refine own_st (fun _ => XS.iload X0.here hx rfl (hb hby own_dsh3_20) rfl) ?_
  show own_End p e below P (s₁.setTop (mkF m 22 #[.val (.int ((0 : Int32) + (c0 &&& (255 : Int32)))), .val (.ref o1), .val (.int (0 : Int32)), .val (.int (3 : Int32)), .val (.int (3 : Int32)), .val (.int (1 : Int32))] [(.int (1 : Int32)), (.ref o1), (.int ((31 : Int32) * ((0 : Int32) + (c0 &&& (255 : Int32)))))]))
  refine own_baload X0 hx hZ e0 A_o1 (j := (1 : Int32)) (v := c1) (i := 1) (by decide) rfl (g := (mkF m 22 #[.val (.int ((0 : Int32) + (c0 &&& (255 : Int32)))), .val (.ref o1), .val (.int (0 : Int32)), .val (.int (3 : Int32)), .val (.int (3 : Int32)), .val (.int (1 : Int32))] [(.int (1 : Int32)), (.ref o1), (.int ((31 : Int32) * ((0 : Int32) + (c0 &&& (255 : Int32)))))])) rfl rfl (hb hby own_dsh3_22) ?_
  show own_End p e below P (s₁.setTop (mkF m 23 #[.val (.int ((0 : Int32) + (c0 &&& (255 : Int32)))), .val (.ref o1), .val (.int (0 : Int32)), .val (.int (3 : Int32)), .val (.int (3 : Int32)), .val (.int (1 : Int32))] [(.int c1), (.int ((31 : Int32) * ((0 : Int32) + (c0 &&& (255 : Int32)))))]))
  refine own_st (fun _ => XS.sipush X0.here hx rfl (hb hby own_dsh3_23)) ?_
  show own_End p e below P (s₁.setTop (mkF m 26 #[.val (.int ((0 : Int32) + (c0 &&& (255 : Int32)))), .val (.ref o1), .val (.int (0 : Int32)), .val (.int (3 : Int32)), .val (.int (3 : Int32)), .val (.int (1 : Int32))] [(.int (255 : Int32)), (.int c1), (.int ((31 : Int32) * ((0 : Int32) + (c0 &&& (255 : Int32)))))]))
  refine own_st (fun _ => XS.iand X0.here hx rfl (hb hby own_dsh3_26) rfl) ?_
  show own_End p e below P (s₁.setTop (mkF m 27 #[.val (.int ((0 : Int32) + (c0 &&& (255 : Int32)))), .val (.ref o1), .val (.int (0 : Int32)), .val (.int (3 : Int32)), .val (.int (3 : Int32)), .val (.int (1 : Int32))] [(.int (c1 &&& (255 : Int32))), (.int ((31 : Int32) * ((0 : Int32) + (c0 &&& (255 : Int32)))))]))
  refine own_st (fun _ => XS.iadd X0.here hx rfl (hb hby own_dsh3_27) rfl) ?_
  show own_End p e below P (s₁.setTop (mkF m 28 #[.val (.int ((0 : Int32) + (c0 &&& (255 : Int32)))), .val (.ref o1), .val (.int (0 : Int32)), .val (.int (3 : Int32)), .val (.int (3 : Int32)), .val (.int (1 : Int32))] [(.int (((31 : Int32) * ((0 : Int32) + (c0 &&& (255 : Int32)))) + (c1 &&& (255 : Int32))))]))
  refine own_st (fun _ => XS.istoreN X0.here hx rfl (hb hby own_dsh3_28) rfl (l' := #[.val (.int (((31 : Int32) * ((0 : Int32) + (c0 &&& (255 : Int32)))) + (c1 &&& (255 : Int32)))), .val (.ref o1), .val (.int (0 : Int32)), .val (.int (3 : Int32)), .val (.int (3 : Int32)), .val (.int (1 : Int32))]) rfl) ?_
  show own_End p e below P (s₁.setTop (mkF m 29 #[.val (.int (((31 : Int32) * ((0 : Int32) + (c0 &&& (255 : Int32)))) + (c1 &&& (255 : Int32)))), .val (.ref o1), .val (.int (0 : Int32)), .val (.int (3 : Int32)), .val (.int (3 : Int32)), .val (.int (1 : Int32))] []))
  refine own_st (fun _ => XS.iinc X0.here hx rfl (hb hby own_dsh3_29) rfl (l' := #[.val (.int (((31 : Int32) * ((0 : Int32) + (c0 &&& (255 : Int32)))) + (c1 &&& (255 : Int32)))), .val (.ref o1), .val (.int (0 : Int32)), .val (.int (3 : Int32)), .val (.int (3 : Int32)), .val (.int (2 : Int32))]) rfl) ?_
  show own_End p e below P (s₁.setTop (mkF m 32 #[.val (.int (((31 : Int32) * ((0 : Int32) + (c0 &&& (255 : Int32)))) + (c1 &&& (255 : Int32)))), .val (.ref o1), .val (.int (0 : Int32)), .val (.int (3 : Int32)), .val (.int (3 : Int32)), .val (.int (2 : Int32))] []))
  refine own_st (fun _ => XS.goto X0.here hx rfl (pc0 := 32) (pc' := 8) rfl (hb hby own_dsh3_32) (by decide) (by decide)) ?_
  show own_End p e below P (s₁.setTop (mkF m 8 #[.val (.int (((31 : Int32) * ((0 : Int32) + (c0 &&& (255 : Int32)))) + (c1 &&& (255 : Int32)))), .val (.ref o1), .val (.int (0 : Int32)), .val (.int (3 : Int32)), .val (.int (3 : Int32)), .val (.int (2 : Int32))] []))
  refine own_st (fun _ => XS.iload X0.here hx rfl (hb hby own_dsh3_8) rfl) ?_
  show own_End p e below P (s₁.setTop (mkF m 10 #[.val (.int (((31 : Int32) * ((0 : Int32) + (c0 &&& (255 : Int32)))) + (c1 &&& (255 : Int32)))), .val (.ref o1), .val (.int (0 : Int32)), .val (.int (3 : Int32)), .val (.int (3 : Int32)), .val (.int (2 : Int32))] [(.int (2 : Int32))]))
  refine own_st (fun _ => XS.iload X0.here hx rfl (hb hby own_dsh3_10) rfl) ?_
  show own_End p e below P (s₁.setTop (mkF m 12 #[.val (.int (((31 : Int32) * ((0 : Int32) + (c0 &&& (255 : Int32)))) + (c1 &&& (255 : Int32)))), .val (.ref o1), .val (.int (0 : Int32)), .val (.int (3 : Int32)), .val (.int (3 : Int32)), .val (.int (2 : Int32))] [(.int (3 : Int32)), (.int (2 : Int32))]))
  refine own_st (fun _ => XS.icmpNo X0.here hx rfl (hb hby own_dsh3_12) rfl (tlt (by decide : (2 : Int32) < (3 : Int32))).2.1) ?_
  show own_End p e below P (s₁.setTop (mkF m 15 #[.val (.int (((31 : Int32) * ((0 : Int32) + (c0 &&& (255 : Int32)))) + (c1 &&& (255 : Int32)))), .val (.ref o1), .val (.int (0 : Int32)), .val (.int (3 : Int32)), .val (.int (3 : Int32)), .val (.int (2 : Int32))] []))
  refine own_st (fun _ => XS.bipush X0.here hx rfl (hb hby own_dsh3_15)) ?_
  show own_End p e below P (s₁.setTop (mkF m 17 #[.val (.int (((31 : Int32) * ((0 : Int32) + (c0 &&& (255 : Int32)))) + (c1 &&& (255 : Int32)))), .val (.ref o1), .val (.int (0 : Int32)), .val (.int (3 : Int32)), .val (.int (3 : Int32)), .val (.int (2 : Int32))] [(.int (31 : Int32))]))
  refine own_st (fun _ => XS.iloadN X0.here hx rfl (hb hby own_dsh3_17) rfl) ?_
  show own_End p e below P (s₁.setTop (mkF m 18 #[.val (.int (((31 : Int32) * ((0 : Int32) + (c0 &&& (255 : Int32)))) + (c1 &&& (255 : Int32)))), .val (.ref o1), .val (.int (0 : Int32)), .val (.int (3 : Int32)), .val (.int (3 : Int32)), .val (.int (2 : Int32))] [(.int (((31 : Int32) * ((0 : Int32) + (c0 &&& (255 : Int32)))) + (c1 &&& (255 : Int32)))), (.int (31 : Int32))]))
  refine own_st (fun _ => XS.imul X0.here hx rfl (hb hby own_dsh3_18) rfl) ?_
  show own_End p e below P (s₁.setTop (mkF m 19 #[.val (.int (((31 : Int32) * ((0 : Int32) + (c0 &&& (255 : Int32)))) + (c1 &&& (255 : Int32)))), .val (.ref o1), .val (.int (0 : Int32)), .val (.int (3 : Int32)), .val (.int (3 : Int32)), .val (.int (2 : Int32))] [(.int ((31 : Int32) * (((31 : Int32) * ((0 : Int32) + (c0 &&& (255 : Int32)))) + (c1 &&& (255 : Int32)))))]))
  refine own_st (fun _ => XS.aloadN X0.here hx rfl (hb hby own_dsh3_19) rfl rfl) ?_
  show own_End p e below P (s₁.setTop (mkF m 20 #[.val (.int (((31 : Int32) * ((0 : Int32) + (c0 &&& (255 : Int32)))) + (c1 &&& (255 : Int32)))), .val (.ref o1), .val (.int (0 : Int32)), .val (.int (3 : Int32)), .val (.int (3 : Int32)), .val (.int (2 : Int32))] [(.ref o1), (.int ((31 : Int32) * (((31 : Int32) * ((0 : Int32) + (c0 &&& (255 : Int32)))) + (c1 &&& (255 : Int32)))))]))
  refine own_st (fun _ => XS.iload X0.here hx rfl (hb hby own_dsh3_20) rfl) ?_
  show own_End p e below P (s₁.setTop (mkF m 22 #[.val (.int (((31 : Int32) * ((0 : Int32) + (c0 &&& (255 : Int32)))) + (c1 &&& (255 : Int32)))), .val (.ref o1), .val (.int (0 : Int32)), .val (.int (3 : Int32)), .val (.int (3 : Int32)), .val (.int (2 : Int32))] [(.int (2 : Int32)), (.ref o1), (.int ((31 : Int32) * (((31 : Int32) * ((0 : Int32) + (c0 &&& (255 : Int32)))) + (c1 &&& (255 : Int32)))))]))
  refine own_baload X0 hx hZ e0 A_o1 (j := (2 : Int32)) (v := c2) (i := 2) (by decide) rfl (g := (mkF m 22 #[.val (.int (((31 : Int32) * ((0 : Int32) + (c0 &&& (255 : Int32)))) + (c1 &&& (255 : Int32)))), .val (.ref o1), .val (.int (0 : Int32)), .val (.int (3 : Int32)), .val (.int (3 : Int32)), .val (.int (2 : Int32))] [(.int (2 : Int32)), (.ref o1), (.int ((31 : Int32) * (((31 : Int32) * ((0 : Int32) + (c0 &&& (255 : Int32)))) + (c1 &&& (255 : Int32)))))])) rfl rfl (hb hby own_dsh3_22) ?_
  show own_End p e below P (s₁.setTop (mkF m 23 #[.val (.int (((31 : Int32) * ((0 : Int32) + (c0 &&& (255 : Int32)))) + (c1 &&& (255 : Int32)))), .val (.ref o1), .val (.int (0 : Int32)), .val (.int (3 : Int32)), .val (.int (3 : Int32)), .val (.int (2 : Int32))] [(.int c2), (.int ((31 : Int32) * (((31 : Int32) * ((0 : Int32) + (c0 &&& (255 : Int32)))) + (c1 &&& (255 : Int32)))))]))
  refine own_st (fun _ => XS.sipush X0.here hx rfl (hb hby own_dsh3_23)) ?_
  show own_End p e below P (s₁.setTop (mkF m 26 #[.val (.int (((31 : Int32) * ((0 : Int32) + (c0 &&& (255 : Int32)))) + (c1 &&& (255 : Int32)))), .val (.ref o1), .val (.int (0 : Int32)), .val (.int (3 : Int32)), .val (.int (3 : Int32)), .val (.int (2 : Int32))] [(.int (255 : Int32)), (.int c2), (.int ((31 : Int32) * (((31 : Int32) * ((0 : Int32) + (c0 &&& (255 : Int32)))) + (c1 &&& (255 : Int32)))))]))
  refine own_st (fun _ => XS.iand X0.here hx rfl (hb hby own_dsh3_26) rfl) ?_
  show own_End p e below P (s₁.setTop (mkF m 27 #[.val (.int (((31 : Int32) * ((0 : Int32) + (c0 &&& (255 : Int32)))) + (c1 &&& (255 : Int32)))), .val (.ref o1), .val (.int (0 : Int32)), .val (.int (3 : Int32)), .val (.int (3 : Int32)), .val (.int (2 : Int32))] [(.int (c2 &&& (255 : Int32))), (.int ((31 : Int32) * (((31 : Int32) * ((0 : Int32) + (c0 &&& (255 : Int32)))) + (c1 &&& (255 : Int32)))))]))
  refine own_st (fun _ => XS.iadd X0.here hx rfl (hb hby own_dsh3_27) rfl) ?_
  show own_End p e below P (s₁.setTop (mkF m 28 #[.val (.int (((31 : Int32) * ((0 : Int32) + (c0 &&& (255 : Int32)))) + (c1 &&& (255 : Int32)))), .val (.ref o1), .val (.int (0 : Int32)), .val (.int (3 : Int32)), .val (.int (3 : Int32)), .val (.int (2 : Int32))] [(.int (((31 : Int32) * (((31 : Int32) * ((0 : Int32) + (c0 &&& (255 : Int32)))) + (c1 &&& (255 : Int32)))) + (c2 &&& (255 : Int32))))]))
  refine own_st (fun _ => XS.istoreN X0.here hx rfl (hb hby own_dsh3_28) rfl (l' := #[.val (.int (((31 : Int32) * (((31 : Int32) * ((0 : Int32) + (c0 &&& (255 : Int32)))) + (c1 &&& (255 : Int32)))) + (c2 &&& (255 : Int32)))), .val (.ref o1), .val (.int (0 : Int32)), .val (.int (3 : Int32)), .val (.int (3 : Int32)), .val (.int (2 : Int32))]) rfl) ?_
  show own_End p e below P (s₁.setTop (mkF m 29 #[.val (.int (((31 : Int32) * (((31 : Int32) * ((0 : Int32) + (c0 &&& (255 : Int32)))) + (c1 &&& (255 : Int32)))) + (c2 &&& (255 : Int32)))), .val (.ref o1), .val (.int (0 : Int32)), .val (.int (3 : Int32)), .val (.int (3 : Int32)), .val (.int (2 : Int32))] []))
  refine own_st (fun _ => XS.iinc X0.here hx rfl (hb hby own_dsh3_29) rfl (l' := #[.val (.int (((31 : Int32) * (((31 : Int32) * ((0 : Int32) + (c0 &&& (255 : Int32)))) + (c1 &&& (255 : Int32)))) + (c2 &&& (255 : Int32)))), .val (.ref o1), .val (.int (0 : Int32)), .val (.int (3 : Int32)), .val (.int (3 : Int32)), .val (.int (3 : Int32))]) rfl) ?_
  show own_End p e below P (s₁.setTop (mkF m 32 #[.val (.int (((31 : Int32) * (((31 : Int32) * ((0 : Int32) + (c0 &&& (255 : Int32)))) + (c1 &&& (255 : Int32)))) + (c2 &&& (255 : Int32)))), .val (.ref o1), .val (.int (0 : Int32)), .val (.int (3 : Int32)), .val (.int (3 : Int32)), .val (.int (3 : Int32))] []))
  refine own_st (fun _ => XS.goto X0.here hx rfl (pc0 := 32) (pc' := 8) rfl (hb hby own_dsh3_32) (by decide) (by decide)) ?_
  show own_End p e below P (s₁.setTop (mkF m 8 #[.val (.int (((31 : Int32) * (((31 : Int32) * ((0 : Int32) + (c0 &&& (255 : Int32)))) + (c1 &&& (255 : Int32)))) + (c2 &&& (255 : Int32)))), .val (.ref o1), .val (.int (0 : Int32)), .val (.int (3 : Int32)), .val (.int (3 : Int32)), .val (.int (3 : Int32))] []))
  refine own_st (fun _ => XS.iload X0.here hx rfl (hb hby own_dsh3_8) rfl) ?_
  show own_End p e below P (s₁.setTop (mkF m 10 #[.val (.int (((31 : Int32) * (((31 : Int32) * ((0 : Int32) + (c0 &&& (255 : Int32)))) + (c1 &&& (255 : Int32)))) + (c2 &&& (255 : Int32)))), .val (.ref o1), .val (.int (0 : Int32)), .val (.int (3 : Int32)), .val (.int (3 : Int32)), .val (.int (3 : Int32))] [(.int (3 : Int32))]))
  refine own_st (fun _ => XS.iload X0.here hx rfl (hb hby own_dsh3_10) rfl) ?_
  show own_End p e below P (s₁.setTop (mkF m 12 #[.val (.int (((31 : Int32) * (((31 : Int32) * ((0 : Int32) + (c0 &&& (255 : Int32)))) + (c1 &&& (255 : Int32)))) + (c2 &&& (255 : Int32)))), .val (.ref o1), .val (.int (0 : Int32)), .val (.int (3 : Int32)), .val (.int (3 : Int32)), .val (.int (3 : Int32))] [(.int (3 : Int32)), (.int (3 : Int32))]))
  refine own_st (fun _ => XS.icmpYes X0.here hx rfl (pc0 := 12) (pc' := 35) rfl (hb hby own_dsh3_12) rfl (flt (by decide : ¬ ((3 : Int32) < (3 : Int32)))).2.1 (by decide) (by decide)) ?_
  show own_End p e below P (s₁.setTop (mkF m 35 #[.val (.int (((31 : Int32) * (((31 : Int32) * ((0 : Int32) + (c0 &&& (255 : Int32)))) + (c1 &&& (255 : Int32)))) + (c2 &&& (255 : Int32)))), .val (.ref o1), .val (.int (0 : Int32)), .val (.int (3 : Int32)), .val (.int (3 : Int32)), .val (.int (3 : Int32))] []))
  refine own_st (fun _ => XS.iloadN X0.here hx rfl (hb hby own_dsh3_35) rfl) ?_
  show own_End p e below P (s₁.setTop (mkF m 36 #[.val (.int (((31 : Int32) * (((31 : Int32) * ((0 : Int32) + (c0 &&& (255 : Int32)))) + (c1 &&& (255 : Int32)))) + (c2 &&& (255 : Int32)))), .val (.ref o1), .val (.int (0 : Int32)), .val (.int (3 : Int32)), .val (.int (3 : Int32)), .val (.int (3 : Int32))] [(.int (((31 : Int32) * (((31 : Int32) * ((0 : Int32) + (c0 &&& (255 : Int32)))) + (c1 &&& (255 : Int32)))) + (c2 &&& (255 : Int32))))]))
  refine own_retI X0 hx hlk hP hrt (hb hby own_dsh3_36) (by decide) (by decide) ⟨congrArg (fun z => some (Value.int z)) ?_, N0, e0⟩
  exact (show own_fsh3 c0 c1 c2 = (((31 : Int32) * (((31 : Int32) * ((0 : Int32) + (c0 &&& (255 : Int32)))) + (c1 &&& (255 : Int32)))) + (c2 &&& (255 : Int32))) from rfl).symm
theorem own_dvh3_0 : decode jdk_48_method_4_code 0 = .ok (.iload 4, 2) := by decide +kernel
theorem own_dvh3_2 : decode jdk_48_method_4_code 2 = .ok (.tableswitch 127 4 10 #[42, 55, 127, 127, 88, 101, 114], 42) := by decide +kernel
theorem own_dvh3_44 : decode jdk_48_method_4_code 44 = .ok (.iload_n 3, 1) := by decide +kernel
theorem own_dvh3_45 : decode jdk_48_method_4_code 45 = .ok (.aload_n 0, 1) := by decide +kernel
theorem own_dvh3_46 : decode jdk_48_method_4_code 46 = .ok (.checkcast 60, 3) := by decide +kernel
theorem own_dvh3_49 : decode jdk_48_method_4_code 49 = .ok (.iload_n 1, 1) := by decide +kernel
theorem own_dvh3_50 : decode jdk_48_method_4_code 50 = .ok (.iload_n 2, 1) := by decide +kernel
theorem own_dvh3_51 : decode jdk_48_method_4_code 51 = .ok (.invokestatic 62, 3) := by decide +kernel
theorem own_dvh3_54 : decode jdk_48_method_4_code 54 = .ok (.goto 103, 3) := by decide +kernel
theorem own_dvh3_157 : decode jdk_48_method_4_code 157 = .ok (.ireturn, 1) := by decide +kernel
theorem own_efvh3 (m : MethodId) (o0 : Addr) : entryFrame m #[(.ref o0), (.int (0 : Int32)), (.int (3 : Int32)), (.int (0 : Int32)), (.int (4 : Int32))] 5 = mkF m 0 #[.val (.ref o0), .val (.int (0 : Int32)), .val (.int (3 : Int32)), .val (.int (0 : Int32)), .val (.int (4 : Int32))] [] := by first | (simp [entryFrame, mkF, argsToLocals, Value.category]; done) | rfl
def own_fvh3 (c0 : Int32) (c1 : Int32) (c2 : Int32) : Int32 := (own_fsh3 c0 c1 c2)
set_option maxRecDepth 65536 in
set_option maxHeartbeats 40000000 in
theorem own_mvh3 (l : Launch) (Z : State) (a0 : Array Value) (hw : ∀ d ∈ tables_1, d.before a0 Z = true) (ws : List Jvm.Cond) (o0 : Addr) (c0 : Int32) (c1 : Int32) (c2 : Int32) (h0 : Heap) (n0 : Nat) (Z0 : n0 ≤ h0.size) (A_o0 : own_BA Z h0 o0 [c0, c1, c2]) :
    own_Met l Z (⟨"jdk/internal/util/ArraysSupport", "vectorizedHashCode", "(Ljava/lang/Object;IIII)I"⟩ : MethodName) jdk_48_method_4_code 5 (some .int) ws ({ frames := 1, cells := 0, slots := 0, locals := 17 } : Room) #[(.ref o0), (.int (0 : Int32)), (.int (3 : Int32)), (.int (0 : Int32)), (.int (4 : Int32))] h0 (fun (v : Option Value) (h : Heap) (L : List Loc) => v = some (.int (own_fvh3 c0 c1 c2)) ∧ Fr n0 L ∧ h = h0) := by
  refine own_enter (plainFor_of_name own_pn_jdk_internal_util_ArraysSupport) ?_
  intro p e s m below meth c s₁ P hx hby hml hrt hlk hown hnm hZ X0 e0 hP
  have N0 := Fr.nil n0
  have K0 := Keep.refl h0 []
  have hml' : c.maxLocals = 5 := hml
  refine own_cast (own_efvh3 m o0) ?_
  show own_End p e below P (s₁.setTop (mkF m 0 #[.val (.ref o0), .val (.int (0 : Int32)), .val (.int (3 : Int32)), .val (.int (0 : Int32)), .val (.int (4 : Int32))] []))
  refine own_st (fun _ => XS.iload X0.here hx rfl (hb hby own_dvh3_0) rfl) ?_
  show own_End p e below P (s₁.setTop (mkF m 2 #[.val (.ref o0), .val (.int (0 : Int32)), .val (.int (3 : Int32)), .val (.int (0 : Int32)), .val (.int (4 : Int32))] [(.int (4 : Int32))]))
  refine own_tsw X0 hx (pc := 2) (pc' := 44) (o := 42) (i := (4 : Int32)) (hb hby own_dvh3_2) (by decide +kernel) (by decide +kernel) (by decide) (by decide) ?_
  show own_End p e below P (s₁.setTop (mkF m 44 #[.val (.ref o0), .val (.int (0 : Int32)), .val (.int (3 : Int32)), .val (.int (0 : Int32)), .val (.int (4 : Int32))] []))
  refine own_st (fun _ => XS.iloadN X0.here hx rfl (hb hby own_dvh3_44) rfl) ?_
  show own_End p e below P (s₁.setTop (mkF m 45 #[.val (.ref o0), .val (.int (0 : Int32)), .val (.int (3 : Int32)), .val (.int (0 : Int32)), .val (.int (4 : Int32))] [(.int (0 : Int32))]))
  refine own_st (fun _ => XS.aloadN X0.here hx rfl (hb hby own_dvh3_45) rfl rfl) ?_
  show own_End p e below P (s₁.setTop (mkF m 46 #[.val (.ref o0), .val (.int (0 : Int32)), .val (.int (3 : Int32)), .val (.int (0 : Int32)), .val (.int (4 : Int32))] [(.ref o0), (.int (0 : Int32))]))
  obtain ⟨T1, X1, e1, st1⟩ := castY X0 hx hZ hown (hw _ (List.mem_of_getElem? (i := 103) rfl)) e0 (own_BA.ins A_o0 (by simp)) (g := (mkF m 46 #[.val (.ref o0), .val (.int (0 : Int32)), .val (.int (3 : Int32)), .val (.int (0 : Int32)), .val (.int (4 : Int32))] [(.ref o0), (.int (0 : Int32))])) rfl rfl (hb hby own_dvh3_46)
  refine own_st (fun _ => st1 _) ?_
  show own_End p e below P (T1.setTop (mkF m 49 #[.val (.ref o0), .val (.int (0 : Int32)), .val (.int (3 : Int32)), .val (.int (0 : Int32)), .val (.int (4 : Int32))] [(.ref o0), (.int (0 : Int32))]))
  refine own_st (fun _ => XS.iloadN X1.here hx rfl (hb hby own_dvh3_49) rfl) ?_
  show own_End p e below P (T1.setTop (mkF m 50 #[.val (.ref o0), .val (.int (0 : Int32)), .val (.int (3 : Int32)), .val (.int (0 : Int32)), .val (.int (4 : Int32))] [(.int (0 : Int32)), (.ref o0), (.int (0 : Int32))]))
  refine own_st (fun _ => XS.iloadN X1.here hx rfl (hb hby own_dvh3_50) rfl) ?_
  show own_End p e below P (T1.setTop (mkF m 51 #[.val (.ref o0), .val (.int (0 : Int32)), .val (.int (3 : Int32)), .val (.int (0 : Int32)), .val (.int (4 : Int32))] [(.int (3 : Int32)), (.int (0 : Int32)), (.ref o0), (.int (0 : Int32))]))
  refine own_callS X1 hx hZ (y := (⟨"jdk/internal/util/ArraysSupport", "signedHashCode", "(I[BII)I"⟩ : MethodName)) hown (hw _ (List.mem_of_getElem? (i := 105) rfl)) (hw _ (List.mem_of_getElem? (i := 106) rfl)) (hw _ (List.mem_of_getElem? (i := 101) rfl)) (hw _ (List.mem_of_getElem? (i := 107) rfl)) (by decide) (own_msh3 l Z a0 hw [] o0 c0 c1 c2 h0 n0 (Nat.le_trans Z0 K0.1) A_o0) 0 (by decide) (by decide) e1 (by decide) (by decide) (g := (mkF m 51 #[.val (.ref o0), .val (.int (0 : Int32)), .val (.int (3 : Int32)), .val (.int (0 : Int32)), .val (.int (4 : Int32))] [(.int (3 : Int32)), (.int (0 : Int32)), (.ref o0), (.int (0 : Int32))])) rfl (by rw [hml']; rfl) (argsL := [(.int (0 : Int32)), (.ref o0), (.int (0 : Int32)), (.int (3 : Int32))]) (rest := []) rfl (lenOf own_pd_I_BII_I_530 rfl) rfl (by show 2 * 0 + _ ≤ _; exact Nat.le_of_eq rfl) (hb hby own_dvh3_51) (fun r2 T2 L2 X2 hQ2 => ?_)
  obtain ⟨rfl, Nq2, eq2⟩ := hQ2
  have N2 := Fr.app N0 Nq2
  show own_End p e below P (T2.setTop (mkF m 54 #[.val (.ref o0), .val (.int (0 : Int32)), .val (.int (3 : Int32)), .val (.int (0 : Int32)), .val (.int (4 : Int32))] [(.int (own_fsh3 c0 c1 c2))]))
  refine own_st (fun _ => XS.goto X2.here hx rfl (pc0 := 54) (pc' := 157) rfl (hb hby own_dvh3_54) (by decide) (by decide)) ?_
  show own_End p e below P (T2.setTop (mkF m 157 #[.val (.ref o0), .val (.int (0 : Int32)), .val (.int (3 : Int32)), .val (.int (0 : Int32)), .val (.int (4 : Int32))] [(.int (own_fsh3 c0 c1 c2))]))
  refine own_retI X2 hx hlk hP hrt (hb hby own_dvh3_157) (by decide) (by decide) ⟨congrArg (fun z => some (Value.int z)) ?_, N2, eq2⟩
  exact (show own_fvh3 c0 c1 c2 = (own_fsh3 c0 c1 c2) from rfl).symm
theorem own_dlh0_0 : decode jdk_43_method_21_code 0 = .ok (.aload_n 0, 1) := by decide +kernel
theorem own_dlh0_1 : decode jdk_43_method_21_code 1 = .ok (.arraylength, 1) := by decide +kernel
theorem own_dlh0_2 : decode jdk_43_method_21_code 2 = .ok (.lookupswitch 40 #[(0, 26), (1, 30)], 26) := by decide +kernel
theorem own_dlh0_28 : decode jdk_43_method_21_code 28 = .ok (.iconst 0, 1) := by decide +kernel
theorem own_dlh0_29 : decode jdk_43_method_21_code 29 = .ok (.goto 22, 3) := by decide +kernel
theorem own_dlh0_51 : decode jdk_43_method_21_code 51 = .ok (.ireturn, 1) := by decide +kernel
theorem own_eflh0 (m : MethodId) (o0 : Addr) : entryFrame m #[(.ref o0)] 1 = mkF m 0 #[.val (.ref o0)] [] := by first | (simp [entryFrame, mkF, argsToLocals, Value.category]; done) | rfl
def own_flh0  : Int32 := (0 : Int32)
set_option maxRecDepth 65536 in
set_option maxHeartbeats 40000000 in
theorem own_mlh0 (l : Launch) (Z : State) (a0 : Array Value) (hw : ∀ d ∈ tables_1, d.before a0 Z = true) (ws : List Jvm.Cond) (o0 : Addr)  (h0 : Heap) (n0 : Nat) (Z0 : n0 ≤ h0.size) (A_o0 : own_BA Z h0 o0 []) :
    own_Met l Z (⟨"java/lang/StringLatin1", "hashCode", "([B)I"⟩ : MethodName) jdk_43_method_21_code 1 (some .int) ws ({ frames := 2, cells := 0, slots := 0, locals := 33 } : Room) #[(.ref o0)] h0 (fun (v : Option Value) (h : Heap) (L : List Loc) => v = some (.int (own_flh0 )) ∧ Fr n0 L ∧ h = h0) := by
  refine own_enter (plainFor_of_name own_pn_java_lang_StringLatin1) ?_
  intro p e s m below meth c s₁ P hx hby hml hrt hlk hown hnm hZ X0 e0 hP
  have N0 := Fr.nil n0
  have K0 := Keep.refl h0 []
  have hml' : c.maxLocals = 1 := hml
  refine own_cast (own_eflh0 m o0) ?_
  show own_End p e below P (s₁.setTop (mkF m 0 #[.val (.ref o0)] []))
  refine own_st (fun _ => XS.aloadN X0.here hx rfl (hb hby own_dlh0_0) rfl rfl) ?_
  show own_End p e below P (s₁.setTop (mkF m 1 #[.val (.ref o0)] [(.ref o0)]))
  refine own_alenB X0 hx hZ e0 A_o0 (g := (mkF m 1 #[.val (.ref o0)] [(.ref o0)])) rfl rfl (hb hby own_dlh0_1) ?_
  show own_End p e below P (s₁.setTop (mkF m 2 #[.val (.ref o0)] [(.int (0 : Int32))]))
  refine own_lswY X0 hx (pc := 2) (pc' := 28) (a := 0) (off := 26) (k := (0 : Int32)) (hb hby own_dlh0_2) (by decide +kernel) (by decide +kernel) (by decide) (by decide) ?_
  show own_End p e below P (s₁.setTop (mkF m 28 #[.val (.ref o0)] []))
  refine own_st (fun _ => XS.iconst X0.here hx rfl (hb hby own_dlh0_28)) ?_
  show own_End p e below P (s₁.setTop (mkF m 29 #[.val (.ref o0)] [(.int (0 : Int32))]))
  refine own_st (fun _ => XS.goto X0.here hx rfl (pc0 := 29) (pc' := 51) rfl (hb hby own_dlh0_29) (by decide) (by decide)) ?_
  show own_End p e below P (s₁.setTop (mkF m 51 #[.val (.ref o0)] [(.int (0 : Int32))]))
  refine own_retI X0 hx hlk hP hrt (hb hby own_dlh0_51) (by decide) (by decide) ⟨congrArg (fun z => some (Value.int z)) ?_, N0, e0⟩
  exact (show own_flh0  = (0 : Int32) from rfl).symm
theorem own_dlh1_0 : decode jdk_43_method_21_code 0 = .ok (.aload_n 0, 1) := by decide +kernel
theorem own_dlh1_1 : decode jdk_43_method_21_code 1 = .ok (.arraylength, 1) := by decide +kernel
theorem own_dlh1_2 : decode jdk_43_method_21_code 2 = .ok (.lookupswitch 40 #[(0, 26), (1, 30)], 26) := by decide +kernel
theorem own_dlh1_32 : decode jdk_43_method_21_code 32 = .ok (.aload_n 0, 1) := by decide +kernel
theorem own_dlh1_33 : decode jdk_43_method_21_code 33 = .ok (.iconst 0, 1) := by decide +kernel
theorem own_dlh1_34 : decode jdk_43_method_21_code 34 = .ok (.baload, 1) := by decide +kernel
theorem own_dlh1_35 : decode jdk_43_method_21_code 35 = .ok (.sipush 255, 3) := by decide +kernel
theorem own_dlh1_38 : decode jdk_43_method_21_code 38 = .ok (.iand, 1) := by decide +kernel
theorem own_dlh1_39 : decode jdk_43_method_21_code 39 = .ok (.goto 12, 3) := by decide +kernel
theorem own_dlh1_51 : decode jdk_43_method_21_code 51 = .ok (.ireturn, 1) := by decide +kernel
theorem own_eflh1 (m : MethodId) (o0 : Addr) : entryFrame m #[(.ref o0)] 1 = mkF m 0 #[.val (.ref o0)] [] := by first | (simp [entryFrame, mkF, argsToLocals, Value.category]; done) | rfl
def own_flh1 (c0 : Int32) : Int32 := (c0 &&& (255 : Int32))
set_option maxRecDepth 65536 in
set_option maxHeartbeats 40000000 in
theorem own_mlh1 (l : Launch) (Z : State) (a0 : Array Value) (hw : ∀ d ∈ tables_1, d.before a0 Z = true) (ws : List Jvm.Cond) (o0 : Addr) (c0 : Int32) (h0 : Heap) (n0 : Nat) (Z0 : n0 ≤ h0.size) (A_o0 : own_BA Z h0 o0 [c0]) :
    own_Met l Z (⟨"java/lang/StringLatin1", "hashCode", "([B)I"⟩ : MethodName) jdk_43_method_21_code 1 (some .int) ws ({ frames := 2, cells := 0, slots := 0, locals := 33 } : Room) #[(.ref o0)] h0 (fun (v : Option Value) (h : Heap) (L : List Loc) => v = some (.int (own_flh1 c0)) ∧ Fr n0 L ∧ h = h0) := by
  refine own_enter (plainFor_of_name own_pn_java_lang_StringLatin1) ?_
  intro p e s m below meth c s₁ P hx hby hml hrt hlk hown hnm hZ X0 e0 hP
  have N0 := Fr.nil n0
  have K0 := Keep.refl h0 []
  have hml' : c.maxLocals = 1 := hml
  refine own_cast (own_eflh1 m o0) ?_
  show own_End p e below P (s₁.setTop (mkF m 0 #[.val (.ref o0)] []))
  refine own_st (fun _ => XS.aloadN X0.here hx rfl (hb hby own_dlh1_0) rfl rfl) ?_
  show own_End p e below P (s₁.setTop (mkF m 1 #[.val (.ref o0)] [(.ref o0)]))
  refine own_alenB X0 hx hZ e0 A_o0 (g := (mkF m 1 #[.val (.ref o0)] [(.ref o0)])) rfl rfl (hb hby own_dlh1_1) ?_
  show own_End p e below P (s₁.setTop (mkF m 2 #[.val (.ref o0)] [(.int (1 : Int32))]))
  refine own_lswY X0 hx (pc := 2) (pc' := 32) (a := 1) (off := 30) (k := (1 : Int32)) (hb hby own_dlh1_2) (by decide +kernel) (by decide +kernel) (by decide) (by decide) ?_
  show own_End p e below P (s₁.setTop (mkF m 32 #[.val (.ref o0)] []))
  refine own_st (fun _ => XS.aloadN X0.here hx rfl (hb hby own_dlh1_32) rfl rfl) ?_
  show own_End p e below P (s₁.setTop (mkF m 33 #[.val (.ref o0)] [(.ref o0)]))
  refine own_st (fun _ => XS.iconst X0.here hx rfl (hb hby own_dlh1_33)) ?_
  show own_End p e below P (s₁.setTop (mkF m 34 #[.val (.ref o0)] [(.int (0 : Int32)), (.ref o0)]))
  refine own_baload X0 hx hZ e0 A_o0 (j := (0 : Int32)) (v := c0) (i := 0) (by decide) rfl (g := (mkF m 34 #[.val (.ref o0)] [(.int (0 : Int32)), (.ref o0)])) rfl rfl (hb hby own_dlh1_34) ?_
  show own_End p e below P (s₁.setTop (mkF m 35 #[.val (.ref o0)] [(.int c0)]))
  refine own_st (fun _ => XS.sipush X0.here hx rfl (hb hby own_dlh1_35)) ?_
  show own_End p e below P (s₁.setTop (mkF m 38 #[.val (.ref o0)] [(.int (255 : Int32)), (.int c0)]))
  refine own_st (fun _ => XS.iand X0.here hx rfl (hb hby own_dlh1_38) rfl) ?_
  show own_End p e below P (s₁.setTop (mkF m 39 #[.val (.ref o0)] [(.int (c0 &&& (255 : Int32)))]))
  refine own_st (fun _ => XS.goto X0.here hx rfl (pc0 := 39) (pc' := 51) rfl (hb hby own_dlh1_39) (by decide) (by decide)) ?_
  show own_End p e below P (s₁.setTop (mkF m 51 #[.val (.ref o0)] [(.int (c0 &&& (255 : Int32)))]))
  refine own_retI X0 hx hlk hP hrt (hb hby own_dlh1_51) (by decide) (by decide) ⟨congrArg (fun z => some (Value.int z)) ?_, N0, e0⟩
  exact (show own_flh1 c0 = (c0 &&& (255 : Int32)) from rfl).symm
theorem own_dlh2_0 : decode jdk_43_method_21_code 0 = .ok (.aload_n 0, 1) := by decide +kernel
theorem own_dlh2_1 : decode jdk_43_method_21_code 1 = .ok (.arraylength, 1) := by decide +kernel
theorem own_dlh2_2 : decode jdk_43_method_21_code 2 = .ok (.lookupswitch 40 #[(0, 26), (1, 30)], 26) := by decide +kernel
theorem own_dlh2_42 : decode jdk_43_method_21_code 42 = .ok (.aload_n 0, 1) := by decide +kernel
theorem own_dlh2_43 : decode jdk_43_method_21_code 43 = .ok (.iconst 0, 1) := by decide +kernel
theorem own_dlh2_44 : decode jdk_43_method_21_code 44 = .ok (.aload_n 0, 1) := by decide +kernel
theorem own_dlh2_45 : decode jdk_43_method_21_code 45 = .ok (.arraylength, 1) := by decide +kernel
theorem own_dlh2_46 : decode jdk_43_method_21_code 46 = .ok (.iconst 0, 1) := by decide +kernel
theorem own_dlh2_47 : decode jdk_43_method_21_code 47 = .ok (.iconst 4, 1) := by decide +kernel
theorem own_dlh2_48 : decode jdk_43_method_21_code 48 = .ok (.invokestatic 84, 3) := by decide +kernel
theorem own_pd_Ljava_lang_Object_IIII_I_116 : parseMethodDescriptor "(Ljava/lang/Object;IIII)I" = some ⟨[(.object "java/lang/Object"), .int, .int, .int, .int], some .int⟩ := by decide +kernel
theorem own_dlh2_51 : decode jdk_43_method_21_code 51 = .ok (.ireturn, 1) := by decide +kernel
theorem own_eflh2 (m : MethodId) (o0 : Addr) : entryFrame m #[(.ref o0)] 1 = mkF m 0 #[.val (.ref o0)] [] := by first | (simp [entryFrame, mkF, argsToLocals, Value.category]; done) | rfl
def own_flh2 (c0 : Int32) (c1 : Int32) : Int32 := (own_fvh2 c0 c1)
set_option maxRecDepth 65536 in
set_option maxHeartbeats 40000000 in
theorem own_mlh2 (l : Launch) (Z : State) (a0 : Array Value) (hw : ∀ d ∈ tables_1, d.before a0 Z = true) (ws : List Jvm.Cond) (o0 : Addr) (c0 : Int32) (c1 : Int32) (h0 : Heap) (n0 : Nat) (Z0 : n0 ≤ h0.size) (A_o0 : own_BA Z h0 o0 [c0, c1]) :
    own_Met l Z (⟨"java/lang/StringLatin1", "hashCode", "([B)I"⟩ : MethodName) jdk_43_method_21_code 1 (some .int) ws ({ frames := 2, cells := 0, slots := 0, locals := 33 } : Room) #[(.ref o0)] h0 (fun (v : Option Value) (h : Heap) (L : List Loc) => v = some (.int (own_flh2 c0 c1)) ∧ Fr n0 L ∧ h = h0) := by
  refine own_enter (plainFor_of_name own_pn_java_lang_StringLatin1) ?_
  intro p e s m below meth c s₁ P hx hby hml hrt hlk hown hnm hZ X0 e0 hP
  have N0 := Fr.nil n0
  have K0 := Keep.refl h0 []
  have hml' : c.maxLocals = 1 := hml
  refine own_cast (own_eflh2 m o0) ?_
  show own_End p e below P (s₁.setTop (mkF m 0 #[.val (.ref o0)] []))
  refine own_st (fun _ => XS.aloadN X0.here hx rfl (hb hby own_dlh2_0) rfl rfl) ?_
  show own_End p e below P (s₁.setTop (mkF m 1 #[.val (.ref o0)] [(.ref o0)]))
  refine own_alenB X0 hx hZ e0 A_o0 (g := (mkF m 1 #[.val (.ref o0)] [(.ref o0)])) rfl rfl (hb hby own_dlh2_1) ?_
  show own_End p e below P (s₁.setTop (mkF m 2 #[.val (.ref o0)] [(.int (2 : Int32))]))
  refine own_lswN X0 hx (pc := 2) (pc' := 42) (k := (2 : Int32)) (hb hby own_dlh2_2) (by decide +kernel) (by decide +kernel) (by decide) (by decide) ?_
  show own_End p e below P (s₁.setTop (mkF m 42 #[.val (.ref o0)] []))
  refine own_st (fun _ => XS.aloadN X0.here hx rfl (hb hby own_dlh2_42) rfl rfl) ?_
  show own_End p e below P (s₁.setTop (mkF m 43 #[.val (.ref o0)] [(.ref o0)]))
  refine own_st (fun _ => XS.iconst X0.here hx rfl (hb hby own_dlh2_43)) ?_
  show own_End p e below P (s₁.setTop (mkF m 44 #[.val (.ref o0)] [(.int (0 : Int32)), (.ref o0)]))
  refine own_st (fun _ => XS.aloadN X0.here hx rfl (hb hby own_dlh2_44) rfl rfl) ?_
  show own_End p e below P (s₁.setTop (mkF m 45 #[.val (.ref o0)] [(.ref o0), (.int (0 : Int32)), (.ref o0)]))
  refine own_alenB X0 hx hZ e0 A_o0 (g := (mkF m 45 #[.val (.ref o0)] [(.ref o0), (.int (0 : Int32)), (.ref o0)])) rfl rfl (hb hby own_dlh2_45) ?_
  show own_End p e below P (s₁.setTop (mkF m 46 #[.val (.ref o0)] [(.int (2 : Int32)), (.int (0 : Int32)), (.ref o0)]))
  refine own_st (fun _ => XS.iconst X0.here hx rfl (hb hby own_dlh2_46)) ?_
  show own_End p e below P (s₁.setTop (mkF m 47 #[.val (.ref o0)] [(.int (0 : Int32)), (.int (2 : Int32)), (.int (0 : Int32)), (.ref o0)]))
  refine own_st (fun _ => XS.iconst X0.here hx rfl (hb hby own_dlh2_47)) ?_
  show own_End p e below P (s₁.setTop (mkF m 48 #[.val (.ref o0)] [(.int (4 : Int32)), (.int (0 : Int32)), (.int (2 : Int32)), (.int (0 : Int32)), (.ref o0)]))
  refine own_callS X0 hx hZ (y := (⟨"jdk/internal/util/ArraysSupport", "vectorizedHashCode", "(Ljava/lang/Object;IIII)I"⟩ : MethodName)) hown (hw _ (List.mem_of_getElem? (i := 99) rfl)) (hw _ (List.mem_of_getElem? (i := 100) rfl)) (hw _ (List.mem_of_getElem? (i := 101) rfl)) (hw _ (List.mem_of_getElem? (i := 102) rfl)) (by decide) (own_mvh2 l Z a0 hw [] o0 c0 c1 h0 n0 (Nat.le_trans Z0 K0.1) A_o0) 0 (by decide) (by decide) e0 (by decide) (by decide) (g := (mkF m 48 #[.val (.ref o0)] [(.int (4 : Int32)), (.int (0 : Int32)), (.int (2 : Int32)), (.int (0 : Int32)), (.ref o0)])) rfl (by rw [hml']; rfl) (argsL := [(.ref o0), (.int (0 : Int32)), (.int (2 : Int32)), (.int (0 : Int32)), (.int (4 : Int32))]) (rest := []) rfl (lenOf own_pd_Ljava_lang_Object_IIII_I_116 rfl) rfl (by show 2 * 0 + _ ≤ _; exact Nat.le_of_eq rfl) (hb hby own_dlh2_48) (fun r1 T1 L1 X1 hQ1 => ?_)
  obtain ⟨rfl, Nq1, eq1⟩ := hQ1
  have N1 := Fr.app N0 Nq1
  show own_End p e below P (T1.setTop (mkF m 51 #[.val (.ref o0)] [(.int (own_fvh2 c0 c1))]))
  refine own_retI X1 hx hlk hP hrt (hb hby own_dlh2_51) (by decide) (by decide) ⟨congrArg (fun z => some (Value.int z)) ?_, N1, eq1⟩
  exact (show own_flh2 c0 c1 = (own_fvh2 c0 c1) from rfl).symm
theorem own_dlh3_0 : decode jdk_43_method_21_code 0 = .ok (.aload_n 0, 1) := by decide +kernel
theorem own_dlh3_1 : decode jdk_43_method_21_code 1 = .ok (.arraylength, 1) := by decide +kernel
theorem own_dlh3_2 : decode jdk_43_method_21_code 2 = .ok (.lookupswitch 40 #[(0, 26), (1, 30)], 26) := by decide +kernel
theorem own_dlh3_42 : decode jdk_43_method_21_code 42 = .ok (.aload_n 0, 1) := by decide +kernel
theorem own_dlh3_43 : decode jdk_43_method_21_code 43 = .ok (.iconst 0, 1) := by decide +kernel
theorem own_dlh3_44 : decode jdk_43_method_21_code 44 = .ok (.aload_n 0, 1) := by decide +kernel
theorem own_dlh3_45 : decode jdk_43_method_21_code 45 = .ok (.arraylength, 1) := by decide +kernel
theorem own_dlh3_46 : decode jdk_43_method_21_code 46 = .ok (.iconst 0, 1) := by decide +kernel
theorem own_dlh3_47 : decode jdk_43_method_21_code 47 = .ok (.iconst 4, 1) := by decide +kernel
theorem own_dlh3_48 : decode jdk_43_method_21_code 48 = .ok (.invokestatic 84, 3) := by decide +kernel
theorem own_dlh3_51 : decode jdk_43_method_21_code 51 = .ok (.ireturn, 1) := by decide +kernel
theorem own_eflh3 (m : MethodId) (o0 : Addr) : entryFrame m #[(.ref o0)] 1 = mkF m 0 #[.val (.ref o0)] [] := by first | (simp [entryFrame, mkF, argsToLocals, Value.category]; done) | rfl
def own_flh3 (c0 : Int32) (c1 : Int32) (c2 : Int32) : Int32 := (own_fvh3 c0 c1 c2)
set_option maxRecDepth 65536 in
set_option maxHeartbeats 40000000 in
theorem own_mlh3 (l : Launch) (Z : State) (a0 : Array Value) (hw : ∀ d ∈ tables_1, d.before a0 Z = true) (ws : List Jvm.Cond) (o0 : Addr) (c0 : Int32) (c1 : Int32) (c2 : Int32) (h0 : Heap) (n0 : Nat) (Z0 : n0 ≤ h0.size) (A_o0 : own_BA Z h0 o0 [c0, c1, c2]) :
    own_Met l Z (⟨"java/lang/StringLatin1", "hashCode", "([B)I"⟩ : MethodName) jdk_43_method_21_code 1 (some .int) ws ({ frames := 2, cells := 0, slots := 0, locals := 33 } : Room) #[(.ref o0)] h0 (fun (v : Option Value) (h : Heap) (L : List Loc) => v = some (.int (own_flh3 c0 c1 c2)) ∧ Fr n0 L ∧ h = h0) := by
  refine own_enter (plainFor_of_name own_pn_java_lang_StringLatin1) ?_
  intro p e s m below meth c s₁ P hx hby hml hrt hlk hown hnm hZ X0 e0 hP
  have N0 := Fr.nil n0
  have K0 := Keep.refl h0 []
  have hml' : c.maxLocals = 1 := hml
  refine own_cast (own_eflh3 m o0) ?_
  show own_End p e below P (s₁.setTop (mkF m 0 #[.val (.ref o0)] []))
  refine own_st (fun _ => XS.aloadN X0.here hx rfl (hb hby own_dlh3_0) rfl rfl) ?_
  show own_End p e below P (s₁.setTop (mkF m 1 #[.val (.ref o0)] [(.ref o0)]))
  refine own_alenB X0 hx hZ e0 A_o0 (g := (mkF m 1 #[.val (.ref o0)] [(.ref o0)])) rfl rfl (hb hby own_dlh3_1) ?_
  show own_End p e below P (s₁.setTop (mkF m 2 #[.val (.ref o0)] [(.int (3 : Int32))]))
  refine own_lswN X0 hx (pc := 2) (pc' := 42) (k := (3 : Int32)) (hb hby own_dlh3_2) (by decide +kernel) (by decide +kernel) (by decide) (by decide) ?_
  show own_End p e below P (s₁.setTop (mkF m 42 #[.val (.ref o0)] []))
  refine own_st (fun _ => XS.aloadN X0.here hx rfl (hb hby own_dlh3_42) rfl rfl) ?_
  show own_End p e below P (s₁.setTop (mkF m 43 #[.val (.ref o0)] [(.ref o0)]))
  refine own_st (fun _ => XS.iconst X0.here hx rfl (hb hby own_dlh3_43)) ?_
  show own_End p e below P (s₁.setTop (mkF m 44 #[.val (.ref o0)] [(.int (0 : Int32)), (.ref o0)]))
  refine own_st (fun _ => XS.aloadN X0.here hx rfl (hb hby own_dlh3_44) rfl rfl) ?_
  show own_End p e below P (s₁.setTop (mkF m 45 #[.val (.ref o0)] [(.ref o0), (.int (0 : Int32)), (.ref o0)]))
  refine own_alenB X0 hx hZ e0 A_o0 (g := (mkF m 45 #[.val (.ref o0)] [(.ref o0), (.int (0 : Int32)), (.ref o0)])) rfl rfl (hb hby own_dlh3_45) ?_
  show own_End p e below P (s₁.setTop (mkF m 46 #[.val (.ref o0)] [(.int (3 : Int32)), (.int (0 : Int32)), (.ref o0)]))
  refine own_st (fun _ => XS.iconst X0.here hx rfl (hb hby own_dlh3_46)) ?_
  show own_End p e below P (s₁.setTop (mkF m 47 #[.val (.ref o0)] [(.int (0 : Int32)), (.int (3 : Int32)), (.int (0 : Int32)), (.ref o0)]))
  refine own_st (fun _ => XS.iconst X0.here hx rfl (hb hby own_dlh3_47)) ?_
  show own_End p e below P (s₁.setTop (mkF m 48 #[.val (.ref o0)] [(.int (4 : Int32)), (.int (0 : Int32)), (.int (3 : Int32)), (.int (0 : Int32)), (.ref o0)]))
  refine own_callS X0 hx hZ (y := (⟨"jdk/internal/util/ArraysSupport", "vectorizedHashCode", "(Ljava/lang/Object;IIII)I"⟩ : MethodName)) hown (hw _ (List.mem_of_getElem? (i := 99) rfl)) (hw _ (List.mem_of_getElem? (i := 100) rfl)) (hw _ (List.mem_of_getElem? (i := 101) rfl)) (hw _ (List.mem_of_getElem? (i := 102) rfl)) (by decide) (own_mvh3 l Z a0 hw [] o0 c0 c1 c2 h0 n0 (Nat.le_trans Z0 K0.1) A_o0) 0 (by decide) (by decide) e0 (by decide) (by decide) (g := (mkF m 48 #[.val (.ref o0)] [(.int (4 : Int32)), (.int (0 : Int32)), (.int (3 : Int32)), (.int (0 : Int32)), (.ref o0)])) rfl (by rw [hml']; rfl) (argsL := [(.ref o0), (.int (0 : Int32)), (.int (3 : Int32)), (.int (0 : Int32)), (.int (4 : Int32))]) (rest := []) rfl (lenOf own_pd_Ljava_lang_Object_IIII_I_116 rfl) rfl (by show 2 * 0 + _ ≤ _; exact Nat.le_of_eq rfl) (hb hby own_dlh3_48) (fun r1 T1 L1 X1 hQ1 => ?_)
  obtain ⟨rfl, Nq1, eq1⟩ := hQ1
  have N1 := Fr.app N0 Nq1
  show own_End p e below P (T1.setTop (mkF m 51 #[.val (.ref o0)] [(.int (own_fvh3 c0 c1 c2))]))
  refine own_retI X1 hx hlk hP hrt (hb hby own_dlh3_51) (by decide) (by decide) ⟨congrArg (fun z => some (Value.int z)) ?_, N1, eq1⟩
  exact (show own_flh3 c0 c1 c2 = (own_fvh3 c0 c1 c2) from rfl).symm
def own_fhl : List Int32 → Int32
  | [] => own_flh0
  | [a] => own_flh1 a
  | [a, b] => own_flh2 a b
  | [a, b, c] => own_flh3 a b c
  | _ => 0
set_option maxRecDepth 65536 in
set_option maxHeartbeats 4000000 in
theorem own_mhl (l : Launch) (Z : State) (a0 : Array Value) (hw : ∀ d ∈ tables_1, d.before a0 Z = true) (ws : List Jvm.Cond) (o0 : Addr) (xs : List Int32) (h0 : Heap) (n0 : Nat) (Z0 : n0 ≤ h0.size) (A : own_BA Z h0 o0 xs) (h1 : xs.length ≤ 3) :
    own_Met l Z (⟨"java/lang/StringLatin1", "hashCode", "([B)I"⟩ : MethodName) jdk_43_method_21_code 1 (some .int) ws ({ frames := 2, cells := 0, slots := 0, locals := 33 } : Room) #[(.ref o0)] h0 (fun (v : Option Value) (h : Heap) (L : List Loc) => v = some (.int (own_fhl xs)) ∧ Fr n0 L ∧ h = h0) := by
  obtain q | q | q | q : xs.length = 0 ∨ xs.length = 1 ∨ xs.length = 2 ∨ xs.length = 3 := by omega
  · obtain rfl := List.length_eq_zero_iff.mp q
    exact own_mlh0 l Z a0 hw ws o0 h0 n0 Z0 A
  · obtain ⟨c0, rfl⟩ := own_len1 q
    exact own_mlh1 l Z a0 hw ws o0 _ h0 n0 Z0 A
  · obtain ⟨c0, c1, rfl⟩ := own_len2 q
    exact own_mlh2 l Z a0 hw ws o0 _ _ h0 n0 Z0 A
  · obtain ⟨c0, c1, c2, rfl⟩ := own_len3 q
    exact own_mlh3 l Z a0 hw ws o0 _ _ _ h0 n0 Z0 A
theorem own_disl_0 : decode jdk_42_method_154_code 0 = .ok (.getstatic 38, 3) := by decide +kernel
theorem own_disl_3 : decode jdk_42_method_154_code 3 = .ok (.ifCond .eq 14, 3) := by decide +kernel
theorem own_disl_6 : decode jdk_42_method_154_code 6 = .ok (.aload_n 0, 1) := by decide +kernel
theorem own_disl_7 : decode jdk_42_method_154_code 7 = .ok (.getfield 15, 3) := by decide +kernel
theorem own_disl_10 : decode jdk_42_method_154_code 10 = .ok (.ifCond .ne 7, 3) := by decide +kernel
theorem own_disl_13 : decode jdk_42_method_154_code 13 = .ok (.iconst 1, 1) := by decide +kernel
theorem own_disl_14 : decode jdk_42_method_154_code 14 = .ok (.goto 4, 3) := by decide +kernel
theorem own_disl_18 : decode jdk_42_method_154_code 18 = .ok (.ireturn, 1) := by decide +kernel
theorem own_efisl (m : MethodId) (o0 : Addr) : entryFrame m #[(.ref o0)] 1 = mkF m 0 #[.val (.ref o0)] [] := by first | (simp [entryFrame, mkF, argsToLocals, Value.category]; done) | rfl
set_option maxRecDepth 65536 in
set_option maxHeartbeats 40000000 in
theorem own_misl (l : Launch) (Z : State) (a0 : Array Value) (hw : ∀ d ∈ tables_1, d.before a0 Z = true) (ws : List Jvm.Cond) (o0 : Addr) (s_String_COMPACT_STRINGS : Int32) (h0 : Heap) (n0 : Nat) (Z0 : n0 ≤ h0.size) (F_o0_coder : Fld Z h0 o0 "java/lang/String" "coder" "B" (.int (0 : Int32))) (S_String_COMPACT_STRINGS : Sta Z h0 "java/lang/String" "COMPACT_STRINGS" "Z" (.int s_String_COMPACT_STRINGS)) (hnz : ¬ (s_String_COMPACT_STRINGS = (0 : Int32))) :
    own_Met l Z (⟨"java/lang/String", "isLatin1", "()Z"⟩ : MethodName) jdk_42_method_154_code 1 (some .boolean) ws ({ frames := 0, cells := 0, slots := 0, locals := 0 } : Room) #[(.ref o0)] h0 (fun (v : Option Value) (h : Heap) (L : List Loc) => v = some (.int (1 : Int32)) ∧ Fr n0 L ∧ h = h0) := by
  refine own_enter (plainFor_of_name own_pn_java_lang_String) ?_
  intro p e s m below meth c s₁ P hx hby hml hrt hlk hown hnm hZ X0 e0 hP
  have N0 := Fr.nil n0
  have K0 := Keep.refl h0 []
  have hml' : c.maxLocals = 1 := hml
  refine own_cast (own_efisl m o0) ?_
  show own_End p e below P (s₁.setTop (mkF m 0 #[.val (.ref o0)] []))
  obtain ⟨T1, X1, e1, st1⟩ := getS2 X0 hx hZ hown (host := "") (Or.inl (hw _ (List.mem_of_getElem? (i := 26) rfl))) Via.refl e0 S_String_COMPACT_STRINGS (g := (mkF m 0 #[.val (.ref o0)] [])) rfl (hb hby own_disl_0)
  refine own_st (fun _ => st1 _) ?_
  show own_End p e below P (T1.setTop (mkF m 3 #[.val (.ref o0)] [(.int s_String_COMPACT_STRINGS)]))
  refine own_st (fun _ => XS.ifNo X1.here hx rfl (hb hby own_disl_3) rfl ((if0 _ _).trans (feq hnz).1)) ?_
  show own_End p e below P (T1.setTop (mkF m 6 #[.val (.ref o0)] []))
  refine own_st (fun _ => XS.aloadN X1.here hx rfl (hb hby own_disl_6) rfl rfl) ?_
  show own_End p e below P (T1.setTop (mkF m 7 #[.val (.ref o0)] [(.ref o0)]))
  obtain ⟨T2, X2, e2, st2⟩ := getF X1 hx hZ hown (host := "") (Or.inl (hw _ (List.mem_of_getElem? (i := 25) rfl))) Via.refl e1 F_o0_coder (g := (mkF m 7 #[.val (.ref o0)] [(.ref o0)])) rfl rfl (hb hby own_disl_7)
  refine own_st (fun _ => st2 _) ?_
  show own_End p e below P (T2.setTop (mkF m 10 #[.val (.ref o0)] [(.int (0 : Int32))]))
  refine own_st (fun _ => XS.ifNo X2.here hx rfl (hb hby own_disl_10) rfl ((if0 _ _).trans (teq (by decide : (0 : Int32) = (0 : Int32))).2)) ?_
  show own_End p e below P (T2.setTop (mkF m 13 #[.val (.ref o0)] []))
  refine own_st (fun _ => XS.iconst X2.here hx rfl (hb hby own_disl_13)) ?_
  show own_End p e below P (T2.setTop (mkF m 14 #[.val (.ref o0)] [(.int (1 : Int32))]))
  refine own_st (fun _ => XS.goto X2.here hx rfl (pc0 := 14) (pc' := 18) rfl (hb hby own_disl_14) (by decide) (by decide)) ?_
  show own_End p e below P (T2.setTop (mkF m 18 #[.val (.ref o0)] [(.int (1 : Int32))]))
  exact own_retN X2 hx hlk hP (t := .boolean) (by simp) hrt (hb hby own_disl_18) (by decide) (by decide) ⟨rfl, N0, e2⟩
theorem own_dhc_0 : decode jdk_42_method_78_code 0 = .ok (.aload_n 0, 1) := by decide +kernel
theorem own_dhc_1 : decode jdk_42_method_78_code 1 = .ok (.getfield 19, 3) := by decide +kernel
theorem own_dhc_4 : decode jdk_42_method_78_code 4 = .ok (.istore_n 1, 1) := by decide +kernel
theorem own_dhc_5 : decode jdk_42_method_78_code 5 = .ok (.iload_n 1, 1) := by decide +kernel
theorem own_dhc_6 : decode jdk_42_method_78_code 6 = .ok (.ifCond .ne 52, 3) := by decide +kernel
theorem own_dhc_9 : decode jdk_42_method_78_code 9 = .ok (.aload_n 0, 1) := by decide +kernel
theorem own_dhc_10 : decode jdk_42_method_78_code 10 = .ok (.getfield 23, 3) := by decide +kernel
theorem own_dhc_13 : decode jdk_42_method_78_code 13 = .ok (.ifCond .ne 45, 3) := by decide +kernel
theorem own_dhc_16 : decode jdk_42_method_78_code 16 = .ok (.aload_n 0, 1) := by decide +kernel
theorem own_dhc_17 : decode jdk_42_method_78_code 17 = .ok (.invokevirtual 492, 3) := by decide +kernel
theorem own_pd_Z_171 : parseMethodDescriptor "()Z" = some ⟨[], some .boolean⟩ := by decide +kernel
theorem own_dhc_20 : decode jdk_42_method_78_code 20 = .ok (.ifCond .eq 13, 3) := by decide +kernel
theorem own_dhc_23 : decode jdk_42_method_78_code 23 = .ok (.aload_n 0, 1) := by decide +kernel
theorem own_dhc_24 : decode jdk_42_method_78_code 24 = .ok (.getfield 9, 3) := by decide +kernel
theorem own_dhc_27 : decode jdk_42_method_78_code 27 = .ok (.invokestatic 628, 3) := by decide +kernel
theorem own_pd_B_I_311 : parseMethodDescriptor "([B)I" = some ⟨[(.array .byte)], some .int⟩ := by decide +kernel
theorem own_dhc_30 : decode jdk_42_method_78_code 30 = .ok (.goto 10, 3) := by decide +kernel
theorem own_dhc_40 : decode jdk_42_method_78_code 40 = .ok (.istore_n 1, 1) := by decide +kernel
theorem own_dhc_41 : decode jdk_42_method_78_code 41 = .ok (.iload_n 1, 1) := by decide +kernel
theorem own_dhc_42 : decode jdk_42_method_78_code 42 = .ok (.ifCond .ne 11, 3) := by decide +kernel
theorem own_dhc_45 : decode jdk_42_method_78_code 45 = .ok (.aload_n 0, 1) := by decide +kernel
theorem own_dhc_46 : decode jdk_42_method_78_code 46 = .ok (.iconst 1, 1) := by decide +kernel
theorem own_dhc_47 : decode jdk_42_method_78_code 47 = .ok (.putfield 23, 3) := by decide +kernel
theorem own_dhc_50 : decode jdk_42_method_78_code 50 = .ok (.goto 8, 3) := by decide +kernel
theorem own_dhc_58 : decode jdk_42_method_78_code 58 = .ok (.iload_n 1, 1) := by decide +kernel
theorem own_dhc_59 : decode jdk_42_method_78_code 59 = .ok (.ireturn, 1) := by decide +kernel
theorem own_dhc_53 : decode jdk_42_method_78_code 53 = .ok (.aload_n 0, 1) := by decide +kernel
theorem own_dhc_54 : decode jdk_42_method_78_code 54 = .ok (.iload_n 1, 1) := by decide +kernel
theorem own_dhc_55 : decode jdk_42_method_78_code 55 = .ok (.putfield 19, 3) := by decide +kernel
theorem own_efhc (m : MethodId) (o0 : Addr) : entryFrame m #[(.ref o0)] 2 = mkF m 0 #[.val (.ref o0), .unset] [] := by first | (simp [entryFrame, mkF, argsToLocals, Value.category]; done) | rfl
set_option maxRecDepth 65536 in
set_option maxHeartbeats 40000000 in
theorem own_mhc (l : Launch) (Z : State) (a0 : Array Value) (hw : ∀ d ∈ tables_1, d.before a0 Z = true) (ws : List Jvm.Cond) (o0 : Addr) (xs : List Int32) (w_o0_value : Addr) (s_String_COMPACT_STRINGS : Int32) (h0 : Heap) (n0 : Nat) (Z0 : n0 ≤ h0.size) (E_o0 : Exa Z h0 o0 "java/lang/String") (F_o0_value : Fld Z h0 o0 "java/lang/String" "value" "[B" (.ref w_o0_value)) (F_o0_coder : Fld Z h0 o0 "java/lang/String" "coder" "B" (.int (0 : Int32))) (F_o0_hash : Fld Z h0 o0 "java/lang/String" "hash" "I" (.int (0 : Int32))) (F_o0_hashIsZero : Fld Z h0 o0 "java/lang/String" "hashIsZero" "Z" (.int (0 : Int32))) (S_String_COMPACT_STRINGS : Sta Z h0 "java/lang/String" "COMPACT_STRINGS" "Z" (.int s_String_COMPACT_STRINGS)) (A_w_o0_value : own_BA Z h0 w_o0_value xs) (low_o0 : n0 ≤ o0) (hnz : ¬ (s_String_COMPACT_STRINGS = (0 : Int32))) (hlx : xs.length ≤ 3) :
    own_Met l Z (⟨"java/lang/String", "hashCode", "()I"⟩ : MethodName) jdk_42_method_78_code 2 (some .int) ws ({ frames := 3, cells := 0, slots := 0, locals := 45 } : Room) #[(.ref o0)] h0 (fun (v : Option Value) (h : Heap) (L : List Loc) => v = some (.int (own_fhl xs)) ∧ Fr n0 L ∧ Keep h0 h [o0]) := by
  refine own_enter (plainFor_of_name own_pn_java_lang_String) ?_
  intro p e s m below meth c s₁ P hx hby hml hrt hlk hown hnm hZ X0 e0 hP
  have N0 := Fr.nil n0
  have K0 := Keep.refl h0 [o0]
  have hml' : c.maxLocals = 2 := hml
  refine own_cast (own_efhc m o0) ?_
  show own_End p e below P (s₁.setTop (mkF m 0 #[.val (.ref o0), .unset] []))
  refine own_st (fun _ => XS.aloadN X0.here hx rfl (hb hby own_dhc_0) rfl rfl) ?_
  show own_End p e below P (s₁.setTop (mkF m 1 #[.val (.ref o0), .unset] [(.ref o0)]))
  obtain ⟨T1, X1, e1, st1⟩ := getF X0 hx hZ hown (host := "") (Or.inl (hw _ (List.mem_of_getElem? (i := 87) rfl))) Via.refl e0 F_o0_hash (g := (mkF m 1 #[.val (.ref o0), .unset] [(.ref o0)])) rfl rfl (hb hby own_dhc_1)
  refine own_st (fun _ => st1 _) ?_
  show own_End p e below P (T1.setTop (mkF m 4 #[.val (.ref o0), .unset] [(.int (0 : Int32))]))
  refine own_st (fun _ => XS.istoreN X1.here hx rfl (hb hby own_dhc_4) rfl (l' := #[.val (.ref o0), .val (.int (0 : Int32))]) rfl) ?_
  show own_End p e below P (T1.setTop (mkF m 5 #[.val (.ref o0), .val (.int (0 : Int32))] []))
  refine own_st (fun _ => XS.iloadN X1.here hx rfl (hb hby own_dhc_5) rfl) ?_
  show own_End p e below P (T1.setTop (mkF m 6 #[.val (.ref o0), .val (.int (0 : Int32))] [(.int (0 : Int32))]))
  refine own_st (fun _ => XS.ifNo X1.here hx rfl (hb hby own_dhc_6) rfl ((if0 _ _).trans (teq (by decide : (0 : Int32) = (0 : Int32))).2)) ?_
  show own_End p e below P (T1.setTop (mkF m 9 #[.val (.ref o0), .val (.int (0 : Int32))] []))
  refine own_st (fun _ => XS.aloadN X1.here hx rfl (hb hby own_dhc_9) rfl rfl) ?_
  show own_End p e below P (T1.setTop (mkF m 10 #[.val (.ref o0), .val (.int (0 : Int32))] [(.ref o0)]))
  obtain ⟨T2, X2, e2, st2⟩ := getF X1 hx hZ hown (host := "") (Or.inl (hw _ (List.mem_of_getElem? (i := 89) rfl))) Via.refl e1 F_o0_hashIsZero (g := (mkF m 10 #[.val (.ref o0), .val (.int (0 : Int32))] [(.ref o0)])) rfl rfl (hb hby own_dhc_10)
  refine own_st (fun _ => st2 _) ?_
  show own_End p e below P (T2.setTop (mkF m 13 #[.val (.ref o0), .val (.int (0 : Int32))] [(.int (0 : Int32))]))
  refine own_st (fun _ => XS.ifNo X2.here hx rfl (hb hby own_dhc_13) rfl ((if0 _ _).trans (teq (by decide : (0 : Int32) = (0 : Int32))).2)) ?_
  show own_End p e below P (T2.setTop (mkF m 16 #[.val (.ref o0), .val (.int (0 : Int32))] []))
  refine own_st (fun _ => XS.aloadN X2.here hx rfl (hb hby own_dhc_16) rfl rfl) ?_
  show own_End p e below P (T2.setTop (mkF m 17 #[.val (.ref o0), .val (.int (0 : Int32))] [(.ref o0)]))
  refine own_callV X2 hx hZ (y := (⟨"java/lang/String", "isLatin1", "()Z"⟩ : MethodName)) (z := (⟨"java/lang/String", "isLatin1", "()Z"⟩ : MethodName)) hown (hw _ (List.mem_of_getElem? (i := 91) rfl)) (hw _ (List.mem_of_getElem? (i := 92) rfl)) (notFace_of_selects (args := #[]) (mvT hZ (hw _ (List.mem_of_getElem? (i := 94) rfl)))) (hw _ (List.mem_of_getElem? (i := 94) rfl)) (hw _ (List.mem_of_getElem? (i := 93) rfl)) (hw _ (List.mem_of_getElem? (i := 6) rfl)) (hw _ (List.mem_of_getElem? (i := 95) rfl)) (by decide) E_o0 (own_misl l Z a0 hw [] o0 s_String_COMPACT_STRINGS h0 n0 (Nat.le_trans Z0 K0.1) F_o0_coder S_String_COMPACT_STRINGS hnz) 0 (by decide) (by decide) e2 (by decide) (by decide) (g := (mkF m 17 #[.val (.ref o0), .val (.int (0 : Int32))] [(.ref o0)])) rfl (by rw [hml']; rfl) (argsL := []) (rest := []) rfl (lenOf own_pd_Z_171 rfl) rfl (by show 2 * 0 + _ ≤ _; exact Nat.le_of_eq rfl) (hb hby own_dhc_17) (fun r3 T3 L3 X3 hQ3 => ?_)
  obtain ⟨rfl, Nq3, eq3⟩ := hQ3
  have N3 := Fr.app N0 Nq3
  show own_End p e below P (T3.setTop (mkF m 20 #[.val (.ref o0), .val (.int (0 : Int32))] [(.int (1 : Int32))]))
  refine own_st (fun _ => XS.ifNo X3.here hx rfl (hb hby own_dhc_20) rfl ((if0 _ _).trans (feq (by decide : ¬ ((1 : Int32) = (0 : Int32)))).1)) ?_
  show own_End p e below P (T3.setTop (mkF m 23 #[.val (.ref o0), .val (.int (0 : Int32))] []))
  refine own_st (fun _ => XS.aloadN X3.here hx rfl (hb hby own_dhc_23) rfl rfl) ?_
  show own_End p e below P (T3.setTop (mkF m 24 #[.val (.ref o0), .val (.int (0 : Int32))] [(.ref o0)]))
  obtain ⟨T4, X4, e4, st4⟩ := getF X3 hx hZ hown (host := "") (Or.inl (hw _ (List.mem_of_getElem? (i := 24) rfl))) Via.refl eq3 F_o0_value (g := (mkF m 24 #[.val (.ref o0), .val (.int (0 : Int32))] [(.ref o0)])) rfl rfl (hb hby own_dhc_24)
  refine own_st (fun _ => st4 _) ?_
  show own_End p e below P (T4.setTop (mkF m 27 #[.val (.ref o0), .val (.int (0 : Int32))] [(.ref w_o0_value)]))
  refine own_callS X4 hx hZ (y := (⟨"java/lang/StringLatin1", "hashCode", "([B)I"⟩ : MethodName)) hown (hw _ (List.mem_of_getElem? (i := 96) rfl)) (hw _ (List.mem_of_getElem? (i := 97) rfl)) (hw _ (List.mem_of_getElem? (i := 75) rfl)) (hw _ (List.mem_of_getElem? (i := 98) rfl)) (by decide) (own_mhl l Z a0 hw [] w_o0_value xs h0 n0 (Nat.le_trans Z0 K0.1) A_w_o0_value hlx) 0 (by decide) (by decide) e4 (by decide) (by decide) (g := (mkF m 27 #[.val (.ref o0), .val (.int (0 : Int32))] [(.ref w_o0_value)])) rfl (by rw [hml']; rfl) (argsL := [(.ref w_o0_value)]) (rest := []) rfl (lenOf own_pd_B_I_311 rfl) rfl (by show 2 * 0 + _ ≤ _; exact Nat.le_of_eq rfl) (hb hby own_dhc_27) (fun r5 T5 L5 X5 hQ5 => ?_)
  obtain ⟨rfl, Nq5, eq5⟩ := hQ5
  have N5 := Fr.app N3 Nq5
  show own_End p e below P (T5.setTop (mkF m 30 #[.val (.ref o0), .val (.int (0 : Int32))] [(.int (own_fhl xs))]))
  refine own_st (fun _ => XS.goto X5.here hx rfl (pc0 := 30) (pc' := 40) rfl (hb hby own_dhc_30) (by decide) (by decide)) ?_
  show own_End p e below P (T5.setTop (mkF m 40 #[.val (.ref o0), .val (.int (0 : Int32))] [(.int (own_fhl xs))]))
  refine own_st (fun _ => XS.istoreN X5.here hx rfl (hb hby own_dhc_40) rfl (l' := #[.val (.ref o0), .val (.int (own_fhl xs))]) rfl) ?_
  show own_End p e below P (T5.setTop (mkF m 41 #[.val (.ref o0), .val (.int (own_fhl xs))] []))
  refine own_st (fun _ => XS.iloadN X5.here hx rfl (hb hby own_dhc_41) rfl) ?_
  show own_End p e below P (T5.setTop (mkF m 42 #[.val (.ref o0), .val (.int (own_fhl xs))] [(.int (own_fhl xs))]))
  by_cases hc6 : (own_fhl xs) = (0 : Int32)
  · refine own_st (fun _ => XS.ifNo X5.here hx rfl (hb hby own_dhc_42) rfl ((if0 _ _).trans (teq hc6).2)) ?_
    show own_End p e below P (T5.setTop (mkF m 45 #[.val (.ref o0), .val (.int (own_fhl xs))] []))
    refine own_st (fun _ => XS.aloadN X5.here hx rfl (hb hby own_dhc_45) rfl rfl) ?_
    show own_End p e below P (T5.setTop (mkF m 46 #[.val (.ref o0), .val (.int (own_fhl xs))] [(.ref o0)]))
    refine own_st (fun _ => XS.iconst X5.here hx rfl (hb hby own_dhc_46)) ?_
    show own_End p e below P (T5.setTop (mkF m 47 #[.val (.ref o0), .val (.int (own_fhl xs))] [(.int (1 : Int32)), (.ref o0)]))
    obtain ⟨T7, h7, X7, e7, W7, st7⟩ := putFN X5 hx hZ hown (hw _ (List.mem_of_getElem? (i := 89) rfl)) Via.refl eq5 F_o0_hashIsZero E_o0 (Or.inl (hw _ (List.mem_of_getElem? (i := 90) rfl))) (hw _ (List.mem_of_getElem? (i := 5) rfl)) (ty := .boolean) (v' := (.int (1 : Int32))) (by decide) rfl (by decide) (g := (mkF m 47 #[.val (.ref o0), .val (.int (own_fhl xs))] [(.int (1 : Int32)), (.ref o0)])) rfl rfl (hb hby own_dhc_47)
    have N7 := Fr.snoc X7 N5 low_o0
    have K7 := Keep.wr K0 W7 (Or.inl (List.mem_of_getElem? (i := 0) rfl))
    have F7 := F_o0_hashIsZero.same W7
    refine own_st (fun _ => st7 _) ?_
    show own_End p e below P (T7.setTop (mkF m 50 #[.val (.ref o0), .val (.int (own_fhl xs))] []))
    refine own_st (fun _ => XS.goto X7.here hx rfl (pc0 := 50) (pc' := 58) rfl (hb hby own_dhc_50) (by decide) (by decide)) ?_
    show own_End p e below P (T7.setTop (mkF m 58 #[.val (.ref o0), .val (.int (own_fhl xs))] []))
    refine own_st (fun _ => XS.iloadN X7.here hx rfl (hb hby own_dhc_58) rfl) ?_
    show own_End p e below P (T7.setTop (mkF m 59 #[.val (.ref o0), .val (.int (own_fhl xs))] [(.int (own_fhl xs))]))
    refine own_retI X7 hx hlk hP hrt (hb hby own_dhc_59) (by decide) (by decide) ?_
    exact ⟨rfl, N7, (by rw [e7]; exact K7)⟩
  · refine own_st (fun _ => XS.ifYes X5.here hx rfl (pc0 := 42) (pc' := 53) rfl (hb hby own_dhc_42) rfl ((if0 _ _).trans (feq hc6).2) (by decide) (by decide)) ?_
    show own_End p e below P (T5.setTop (mkF m 53 #[.val (.ref o0), .val (.int (own_fhl xs))] []))
    refine own_st (fun _ => XS.aloadN X5.here hx rfl (hb hby own_dhc_53) rfl rfl) ?_
    show own_End p e below P (T5.setTop (mkF m 54 #[.val (.ref o0), .val (.int (own_fhl xs))] [(.ref o0)]))
    refine own_st (fun _ => XS.iloadN X5.here hx rfl (hb hby own_dhc_54) rfl) ?_
    show own_End p e below P (T5.setTop (mkF m 55 #[.val (.ref o0), .val (.int (own_fhl xs))] [(.int (own_fhl xs)), (.ref o0)]))
    obtain ⟨T8, h8, X8, e8, W8, st8⟩ := putF X5 hx hZ hown (host := "") (Or.inl (hw _ (List.mem_of_getElem? (i := 87) rfl))) Via.refl eq5 F_o0_hash E_o0 (Or.inl (hw _ (List.mem_of_getElem? (i := 88) rfl))) (hw _ (List.mem_of_getElem? (i := 5) rfl)) (ty := .int) (by decide) rfl rfl (g := (mkF m 55 #[.val (.ref o0), .val (.int (own_fhl xs))] [(.int (own_fhl xs)), (.ref o0)])) rfl rfl (hb hby own_dhc_55)
    have N8 := Fr.snoc X8 N5 low_o0
    have K8 := Keep.wr K0 W8 (Or.inl (List.mem_of_getElem? (i := 0) rfl))
    have F8 := F_o0_hash.same W8
    refine own_st (fun _ => st8 _) ?_
    show own_End p e below P (T8.setTop (mkF m 58 #[.val (.ref o0), .val (.int (own_fhl xs))] []))
    refine own_st (fun _ => XS.iloadN X8.here hx rfl (hb hby own_dhc_58) rfl) ?_
    show own_End p e below P (T8.setTop (mkF m 59 #[.val (.ref o0), .val (.int (own_fhl xs))] [(.int (own_fhl xs))]))
    refine own_retI X8 hx hlk hP hrt (hb hby own_dhc_59) (by decide) (by decide) ?_
    exact ⟨rfl, N8, (by rw [e8]; exact K8)⟩
theorem own_drh_0 : decode prog_34_method_8_code 0 = .ok (.aload_n 0, 1) := by decide +kernel
theorem own_drh_1 : decode prog_34_method_8_code 1 = .ok (.getfield 7, 3) := by decide +kernel
theorem own_drh_4 : decode prog_34_method_8_code 4 = .ok (.invokevirtual 160, 3) := by decide +kernel
theorem own_pd_I_154 : parseMethodDescriptor "()I" = some ⟨[], some .int⟩ := by decide +kernel
theorem own_drh_7 : decode prog_34_method_8_code 7 = .ok (.bipush 31, 2) := by decide +kernel
theorem own_drh_9 : decode prog_34_method_8_code 9 = .ok (.imul, 1) := by decide +kernel
theorem own_drh_10 : decode prog_34_method_8_code 10 = .ok (.aload_n 0, 1) := by decide +kernel
theorem own_drh_11 : decode prog_34_method_8_code 11 = .ok (.getfield 13, 3) := by decide +kernel
theorem own_drh_14 : decode prog_34_method_8_code 14 = .ok (.invokevirtual 160, 3) := by decide +kernel
theorem own_drh_17 : decode prog_34_method_8_code 17 = .ok (.iadd, 1) := by decide +kernel
theorem own_drh_18 : decode prog_34_method_8_code 18 = .ok (.bipush 31, 2) := by decide +kernel
theorem own_drh_20 : decode prog_34_method_8_code 20 = .ok (.imul, 1) := by decide +kernel
theorem own_drh_21 : decode prog_34_method_8_code 21 = .ok (.aload_n 0, 1) := by decide +kernel
theorem own_drh_22 : decode prog_34_method_8_code 22 = .ok (.getfield 16, 3) := by decide +kernel
theorem own_drh_25 : decode prog_34_method_8_code 25 = .ok (.iadd, 1) := by decide +kernel
theorem own_drh_26 : decode prog_34_method_8_code 26 = .ok (.ireturn, 1) := by decide +kernel
theorem own_efrh (m : MethodId) (o0 : Addr) : entryFrame m #[(.ref o0)] 1 = mkF m 0 #[.val (.ref o0)] [] := by first | (simp [entryFrame, mkF, argsToLocals, Value.category]; done) | rfl
set_option maxRecDepth 65536 in
set_option maxHeartbeats 40000000 in
theorem own_mrh (l : Launch) (Z : State) (a0 : Array Value) (hw : ∀ d ∈ tables_1, d.before a0 Z = true) (ws : List Jvm.Cond) (o0 : Addr) (xs0h : List Int32) (xs0s : List Int32) (w_o0_port : Int32) (w_o0_host : Addr) (w_o0_scheme : Addr) (w_w_o0_host_value : Addr) (w_w_o0_scheme_value : Addr) (s_String_COMPACT_STRINGS : Int32) (h0 : Heap) (n0 : Nat) (Z0 : n0 ≤ h0.size) (E_o0 : Exa Z h0 o0 "com/example/holdfast/holdfast/internal/Route") (E_w_o0_host : Exa Z h0 w_o0_host "java/lang/String") (E_w_o0_scheme : Exa Z h0 w_o0_scheme "java/lang/String") (F_o0_port : Fld Z h0 o0 "com/example/holdfast/holdfast/internal/Route" "port" "I" (.int w_o0_port)) (F_o0_host : Fld Z h0 o0 "com/example/holdfast/holdfast/internal/Route" "host" "Ljava/lang/String;" (.ref w_o0_host)) (F_o0_scheme : Fld Z h0 o0 "com/example/holdfast/holdfast/internal/Route" "scheme" "Ljava/lang/String;" (.ref w_o0_scheme)) (F_w_o0_host_value : Fld Z h0 w_o0_host "java/lang/String" "value" "[B" (.ref w_w_o0_host_value)) (F_w_o0_host_coder : Fld Z h0 w_o0_host "java/lang/String" "coder" "B" (.int (0 : Int32))) (F_w_o0_host_hash : Fld Z h0 w_o0_host "java/lang/String" "hash" "I" (.int (0 : Int32))) (F_w_o0_host_hashIsZero : Fld Z h0 w_o0_host "java/lang/String" "hashIsZero" "Z" (.int (0 : Int32))) (F_w_o0_scheme_value : Fld Z h0 w_o0_scheme "java/lang/String" "value" "[B" (.ref w_w_o0_scheme_value)) (F_w_o0_scheme_coder : Fld Z h0 w_o0_scheme "java/lang/String" "coder" "B" (.int (0 : Int32))) (F_w_o0_scheme_hash : Fld Z h0 w_o0_scheme "java/lang/String" "hash" "I" (.int (0 : Int32))) (F_w_o0_scheme_hashIsZero : Fld Z h0 w_o0_scheme "java/lang/String" "hashIsZero" "Z" (.int (0 : Int32))) (S_String_COMPACT_STRINGS : Sta Z h0 "java/lang/String" "COMPACT_STRINGS" "Z" (.int s_String_COMPACT_STRINGS)) (A_w_w_o0_host_value : own_BA Z h0 w_w_o0_host_value xs0h) (A_w_w_o0_scheme_value : own_BA Z h0 w_w_o0_scheme_value xs0s) (low_w_o0_host : n0 ≤ w_o0_host) (low_w_o0_scheme : n0 ≤ w_o0_scheme) (ne_w_o0_host_w_o0_scheme : w_o0_host ≠ w_o0_scheme) (ne_o0_w_o0_host : o0 ≠ w_o0_host) (ne_o0_w_o0_scheme : o0 ≠ w_o0_scheme) (ne_w_o0_scheme_w_w_o0_host_value : w_o0_scheme ≠ w_w_o0_host_value) (ne_w_o0_host_w_w_o0_host_value : w_o0_host ≠ w_w_o0_host_value) (ne_w_o0_host_w_w_o0_scheme_value : w_o0_host ≠ w_w_o0_scheme_value) (hnz : ¬ (s_String_COMPACT_STRINGS = (0 : Int32))) (h0h : xs0h.length ≤ 3) (h0s : xs0s.length ≤ 3) :
    own_Met l Z (⟨"com/example/holdfast/holdfast/internal/Route", "hashCode", "()I"⟩ : MethodName) prog_34_method_8_code 1 (some .int) ws ({ frames := 4, cells := 0, slots := 0, locals := 59 } : Room) #[(.ref o0)] h0 (fun (v : Option Value) (h : Heap) (L : List Loc) => v = some (.int (((((own_fhl xs0s) * (31 : Int32)) + (own_fhl xs0h)) * (31 : Int32)) + w_o0_port)) ∧ Fr n0 L ∧ Keep h0 h [w_o0_scheme, w_o0_host]) := by
  refine own_enter (plainFor_of_name own_pn_com_example_holdfast_holdfast_internal_Route) ?_
  intro p e s m below meth c s₁ P hx hby hml hrt hlk hown hnm hZ X0 e0 hP
  have N0 := Fr.nil n0
  have K0 := Keep.refl h0 [w_o0_scheme, w_o0_host]
  have hml' : c.maxLocals = 1 := hml
  refine own_cast (own_efrh m o0) ?_
  show own_End p e below P (s₁.setTop (mkF m 0 #[.val (.ref o0)] []))
  refine own_st (fun _ => XS.aloadN X0.here hx rfl (hb hby own_drh_0) rfl rfl) ?_
  show own_End p e below P (s₁.setTop (mkF m 1 #[.val (.ref o0)] [(.ref o0)]))
  obtain ⟨T1, X1, e1, st1⟩ := getF X0 hx hZ hown (host := "") (Or.inl (hw _ (List.mem_of_getElem? (i := 49) rfl))) Via.refl e0 F_o0_scheme (g := (mkF m 1 #[.val (.ref o0)] [(.ref o0)])) rfl rfl (hb hby own_drh_1)
  refine own_st (fun _ => st1 _) ?_
  show own_End p e below P (T1.setTop (mkF m 4 #[.val (.ref o0)] [(.ref w_o0_scheme)]))
  refine own_callV X1 hx hZ (y := (⟨"java/lang/String", "hashCode", "()I"⟩ : MethodName)) (z := (⟨"java/lang/String", "hashCode", "()I"⟩ : MethodName)) hown (hw _ (List.mem_of_getElem? (i := 82) rfl)) (hw _ (List.mem_of_getElem? (i := 83) rfl)) (notFace_of_selects (args := #[]) (mvT hZ (hw _ (List.mem_of_getElem? (i := 85) rfl)))) (hw _ (List.mem_of_getElem? (i := 85) rfl)) (hw _ (List.mem_of_getElem? (i := 84) rfl)) (hw _ (List.mem_of_getElem? (i := 6) rfl)) (hw _ (List.mem_of_getElem? (i := 86) rfl)) (by decide) E_w_o0_scheme (own_mhc l Z a0 hw [] w_o0_scheme xs0s w_w_o0_scheme_value s_String_COMPACT_STRINGS h0 n0 (Nat.le_trans Z0 K0.1) E_w_o0_scheme F_w_o0_scheme_value F_w_o0_scheme_coder F_w_o0_scheme_hash F_w_o0_scheme_hashIsZero S_String_COMPACT_STRINGS A_w_w_o0_scheme_value low_w_o0_scheme hnz h0s) 0 (by decide) (by decide) e1 (by decide) (by decide) (g := (mkF m 4 #[.val (.ref o0)] [(.ref w_o0_scheme)])) rfl (by rw [hml']; rfl) (argsL := []) (rest := []) rfl (lenOf own_pd_I_154 rfl) rfl (by show 2 * 0 + _ ≤ _; exact Nat.le_of_eq rfl) (hb hby own_drh_4) (fun r2 T2 L2 X2 hQ2 => ?_)
  obtain ⟨rfl, Nq2, Kq2⟩ := hQ2
  have N2 := Fr.app N0 Nq2
  have K2 := Keep.trans K0 Kq2 (allS (Or.inl (List.mem_of_getElem? (i := 0) rfl)) all0)
  show own_End p e below P (T2.setTop (mkF m 7 #[.val (.ref o0)] [(.int (own_fhl xs0s))]))
  refine own_st (fun _ => XS.bipush X2.here hx rfl (hb hby own_drh_7)) ?_
  show own_End p e below P (T2.setTop (mkF m 9 #[.val (.ref o0)] [(.int (31 : Int32)), (.int (own_fhl xs0s))]))
  refine own_st (fun _ => XS.imul X2.here hx rfl (hb hby own_drh_9) rfl) ?_
  show own_End p e below P (T2.setTop (mkF m 10 #[.val (.ref o0)] [(.int ((own_fhl xs0s) * (31 : Int32)))]))
  refine own_st (fun _ => XS.aloadN X2.here hx rfl (hb hby own_drh_10) rfl rfl) ?_
  show own_End p e below P (T2.setTop (mkF m 11 #[.val (.ref o0)] [(.ref o0), (.int ((own_fhl xs0s) * (31 : Int32)))]))
  have G3 := (F_o0_host.keep Kq2 (ninS ne_o0_w_o0_scheme nin0))
  obtain ⟨T4, X4, e4, st4⟩ := getF X2 hx hZ hown (host := "") (Or.inl (hw _ (List.mem_of_getElem? (i := 51) rfl))) Via.refl rfl G3 (g := (mkF m 11 #[.val (.ref o0)] [(.ref o0), (.int ((own_fhl xs0s) * (31 : Int32)))])) rfl rfl (hb hby own_drh_11)
  refine own_st (fun _ => st4 _) ?_
  show own_End p e below P (T4.setTop (mkF m 14 #[.val (.ref o0)] [(.ref w_o0_host), (.int ((own_fhl xs0s) * (31 : Int32)))]))
  have G6 := (E_w_o0_host.keep Kq2)
  have G7 := (F_w_o0_host_value.keep Kq2 (ninS ne_w_o0_host_w_o0_scheme nin0))
  have G8 := (F_w_o0_host_coder.keep Kq2 (ninS ne_w_o0_host_w_o0_scheme nin0))
  have G9 := (F_w_o0_host_hash.keep Kq2 (ninS ne_w_o0_host_w_o0_scheme nin0))
  have G10 := (F_w_o0_host_hashIsZero.keep Kq2 (ninS ne_w_o0_host_w_o0_scheme nin0))
  have G11 := (own_StaKeep S_String_COMPACT_STRINGS Kq2 (allS (own_nst E_w_o0_scheme) all0))
  have G12 := (A_w_w_o0_host_value.keep Kq2 (ninS (Ne.symm ne_w_o0_scheme_w_w_o0_host_value) nin0))
  refine own_callV X4 hx hZ (y := (⟨"java/lang/String", "hashCode", "()I"⟩ : MethodName)) (z := (⟨"java/lang/String", "hashCode", "()I"⟩ : MethodName)) hown (hw _ (List.mem_of_getElem? (i := 82) rfl)) (hw _ (List.mem_of_getElem? (i := 83) rfl)) (notFace_of_selects (args := #[]) (mvT hZ (hw _ (List.mem_of_getElem? (i := 85) rfl)))) (hw _ (List.mem_of_getElem? (i := 85) rfl)) (hw _ (List.mem_of_getElem? (i := 84) rfl)) (hw _ (List.mem_of_getElem? (i := 6) rfl)) (hw _ (List.mem_of_getElem? (i := 86) rfl)) (by decide) G6 (own_mhc l Z a0 hw [] w_o0_host xs0h w_w_o0_host_value s_String_COMPACT_STRINGS T2.heap n0 (Nat.le_trans Z0 K2.1) G6 G7 G8 G9 G10 G11 G12 low_w_o0_host hnz h0h) 1 (by decide) (by decide) e4 (by decide) (by decide) (g := (mkF m 14 #[.val (.ref o0)] [(.ref w_o0_host), (.int ((own_fhl xs0s) * (31 : Int32)))])) rfl (by rw [hml']; rfl) (argsL := []) (rest := [(.int ((own_fhl xs0s) * (31 : Int32)))]) rfl (lenOf own_pd_I_154 rfl) rfl (by show 2 * 0 + _ ≤ _; exact Nat.le_of_eq rfl) (hb hby own_drh_14) (fun r5 T5 L5 X5 hQ5 => ?_)
  obtain ⟨rfl, Nq5, Kq5⟩ := hQ5
  have N5 := Fr.app N2 Nq5
  have K5 := Keep.trans K2 Kq5 (allS (Or.inl (List.mem_of_getElem? (i := 1) rfl)) all0)
  show own_End p e below P (T5.setTop (mkF m 17 #[.val (.ref o0)] [(.int (own_fhl xs0h)), (.int ((own_fhl xs0s) * (31 : Int32)))]))
  refine own_st (fun _ => XS.iadd X5.here hx rfl (hb hby own_drh_17) rfl) ?_
  show own_End p e below P (T5.setTop (mkF m 18 #[.val (.ref o0)] [(.int (((own_fhl xs0s) * (31 : Int32)) + (own_fhl xs0h)))]))
  refine own_st (fun _ => XS.bipush X5.here hx rfl (hb hby own_drh_18)) ?_
  show own_End p e below P (T5.setTop (mkF m 20 #[.val (.ref o0)] [(.int (31 : Int32)), (.int (((own_fhl xs0s) * (31 : Int32)) + (own_fhl xs0h)))]))
  refine own_st (fun _ => XS.imul X5.here hx rfl (hb hby own_drh_20) rfl) ?_
  show own_End p e below P (T5.setTop (mkF m 21 #[.val (.ref o0)] [(.int ((((own_fhl xs0s) * (31 : Int32)) + (own_fhl xs0h)) * (31 : Int32)))]))
  refine own_st (fun _ => XS.aloadN X5.here hx rfl (hb hby own_drh_21) rfl rfl) ?_
  show own_End p e below P (T5.setTop (mkF m 22 #[.val (.ref o0)] [(.ref o0), (.int ((((own_fhl xs0s) * (31 : Int32)) + (own_fhl xs0h)) * (31 : Int32)))]))
  have G13 := ((F_o0_port.keep Kq2 (ninS ne_o0_w_o0_scheme nin0)).keep Kq5 (ninS ne_o0_w_o0_host nin0))
  obtain ⟨T14, X14, e14, st14⟩ := getF X5 hx hZ hown (host := "") (Or.inl (hw _ (List.mem_of_getElem? (i := 53) rfl))) Via.refl rfl G13 (g := (mkF m 22 #[.val (.ref o0)] [(.ref o0), (.int ((((own_fhl xs0s) * (31 : Int32)) + (own_fhl xs0h)) * (31 : Int32)))])) rfl rfl (hb hby own_drh_22)
  refine own_st (fun _ => st14 _) ?_
  show own_End p e below P (T14.setTop (mkF m 25 #[.val (.ref o0)] [(.int w_o0_port), (.int ((((own_fhl xs0s) * (31 : Int32)) + (own_fhl xs0h)) * (31 : Int32)))]))
  refine own_st (fun _ => XS.iadd X14.here hx rfl (hb hby own_drh_25) rfl) ?_
  show own_End p e below P (T14.setTop (mkF m 26 #[.val (.ref o0)] [(.int (((((own_fhl xs0s) * (31 : Int32)) + (own_fhl xs0h)) * (31 : Int32)) + w_o0_port))]))
  have hfin : ((fun (v : Option Value) (h : Heap) (L : List Loc) => v = some (.int (((((own_fhl xs0s) * (31 : Int32)) + (own_fhl xs0h)) * (31 : Int32)) + w_o0_port)) ∧ Fr n0 L ∧ Keep h0 h [w_o0_scheme, w_o0_host])) (some (.int (((((own_fhl xs0s) * (31 : Int32)) + (own_fhl xs0h)) * (31 : Int32)) + w_o0_port))) T5.heap _ := ⟨rfl, N5, K5⟩
  refine own_retI X14 hx hlk hP hrt (hb hby own_drh_26) (by decide) (by decide) ?_
  rw [e14]; exact hfin
theorem own_drec_0 : decode jdk_30_method_1_code 0 = .ok (.aload_n 0, 1) := by decide +kernel
theorem own_drec_1 : decode jdk_30_method_1_code 1 = .ok (.invokespecial 1, 3) := by decide +kernel
theorem own_drec_4 : decode jdk_30_method_1_code 4 = .ok (.return_, 1) := by decide +kernel
theorem own_efrec (m : MethodId) (o0 : Addr) : entryFrame m #[(.ref o0)] 1 = mkF m 0 #[.val (.ref o0)] [] := by first | (simp [entryFrame, mkF, argsToLocals, Value.category]; done) | rfl
theorem own_pn_java_lang_Record : plainName "java/lang/Record" = true := by first | (simp [plainName, overriddenIn]; done) | decide +kernel
set_option maxRecDepth 65536 in
set_option maxHeartbeats 40000000 in
theorem own_mrec (l : Launch) (Z : State) (a0 : Array Value) (hw : ∀ d ∈ tables_1, d.before a0 Z = true) (ws : List Jvm.Cond) (o0 : Addr)  (h0 : Heap) (n0 : Nat) (Z0 : n0 ≤ h0.size)  :
    own_Met l Z (⟨"java/lang/Record", "<init>", "()V"⟩ : MethodName) jdk_30_method_1_code 1 none ws ({ frames := 1, cells := 0, slots := 0, locals := 12 } : Room) #[(.ref o0)] h0 (fun (v : Option Value) (h : Heap) (L : List Loc) => v = none ∧ Fr n0 L ∧ h = h0) := by
  refine own_enter (plainFor_of_name own_pn_java_lang_Record) ?_
  intro p e s m below meth c s₁ P hx hby hml hrt hlk hown hnm hZ X0 e0 hP
  have N0 := Fr.nil n0
  have K0 := Keep.refl h0 []
  have hml' : c.maxLocals = 1 := hml
  refine own_cast (own_efrec m o0) ?_
  show own_End p e below P (s₁.setTop (mkF m 0 #[.val (.ref o0)] []))
  refine own_st (fun _ => XS.aloadN X0.here hx rfl (hb hby own_drec_0) rfl rfl) ?_
  show own_End p e below P (s₁.setTop (mkF m 1 #[.val (.ref o0)] [(.ref o0)]))
  obtain ⟨T1, X1, e1, st1⟩ := initO X0 hx hZ hown (hw _ (List.mem_of_getElem? (i := 48) rfl)) (hw _ (List.mem_of_getElem? (i := 16) rfl)) (hw _ (List.mem_of_getElem? (i := 17) rfl)) e0 (g := (mkF m 1 #[.val (.ref o0)] [(.ref o0)])) rfl (by rw [hml']; rfl) rfl (hb hby own_drec_1) (by decide) (W := 0) (by show 2 * 0 + _ ≤ _; exact Nat.le_of_eq rfl) (by decide)
  refine own_st (fun _ => st1 _) ?_
  show own_End p e below P (T1.setTop (mkF m 4 #[.val (.ref o0)] []))
  exact own_retV X1 hx hlk hP hrt (hb hby own_drec_4) (by decide) (by decide) ⟨rfl, N0, e1⟩
theorem own_dri_0 : decode prog_34_method_1_code 0 = .ok (.aload_n 0, 1) := by decide +kernel
theorem own_dri_1 : decode prog_34_method_1_code 1 = .ok (.invokespecial 1, 3) := by decide +kernel
theorem own_pd_V_167 : parseMethodDescriptor "()V" = some ⟨[], none⟩ := by decide +kernel
theorem own_dri_4 : decode prog_34_method_1_code 4 = .ok (.aload_n 0, 1) := by decide +kernel
theorem own_dri_5 : decode prog_34_method_1_code 5 = .ok (.aload_n 1, 1) := by decide +kernel
theorem own_dri_6 : decode prog_34_method_1_code 6 = .ok (.putfield 7, 3) := by decide +kernel
theorem own_dri_9 : decode prog_34_method_1_code 9 = .ok (.aload_n 0, 1) := by decide +kernel
theorem own_dri_10 : decode prog_34_method_1_code 10 = .ok (.aload_n 2, 1) := by decide +kernel
theorem own_dri_11 : decode prog_34_method_1_code 11 = .ok (.putfield 13, 3) := by decide +kernel
theorem own_dri_14 : decode prog_34_method_1_code 14 = .ok (.aload_n 0, 1) := by decide +kernel
theorem own_dri_15 : decode prog_34_method_1_code 15 = .ok (.iload_n 3, 1) := by decide +kernel
theorem own_dri_16 : decode prog_34_method_1_code 16 = .ok (.putfield 16, 3) := by decide +kernel
theorem own_dri_19 : decode prog_34_method_1_code 19 = .ok (.return_, 1) := by decide +kernel
theorem own_efri (m : MethodId) (o0 : Addr) (o1 : Addr) (o2 : Addr) (p3 : Int32) : entryFrame m #[(.ref o0), (.ref o1), (.ref o2), (.int p3)] 4 = mkF m 0 #[.val (.ref o0), .val (.ref o1), .val (.ref o2), .val (.int p3)] [] := by first | (simp [entryFrame, mkF, argsToLocals, Value.category]; done) | rfl
set_option maxRecDepth 65536 in
set_option maxHeartbeats 40000000 in
theorem own_mri (l : Launch) (Z : State) (a0 : Array Value) (hw : ∀ d ∈ tables_1, d.before a0 Z = true) (ws : List Jvm.Cond) (o0 : Addr) (o1 : Addr) (o2 : Addr) (p3 : Int32)  (h0 : Heap) (n0 : Nat) (Z0 : n0 ≤ h0.size) (E_o0 : Exa Z h0 o0 "com/example/holdfast/holdfast/internal/Route") (F_o0_scheme : Fld Z h0 o0 "com/example/holdfast/holdfast/internal/Route" "scheme" "Ljava/lang/String;" .null) (F_o0_host : Fld Z h0 o0 "com/example/holdfast/holdfast/internal/Route" "host" "Ljava/lang/String;" .null) (F_o0_port : Fld Z h0 o0 "com/example/holdfast/holdfast/internal/Route" "port" "I" (.int (0 : Int32))) (low_o0 : n0 ≤ o0) :
    own_Met l Z (⟨"com/example/holdfast/holdfast/internal/Route", "<init>", "(Ljava/lang/String;Ljava/lang/String;I)V"⟩ : MethodName) prog_34_method_1_code 4 none ws ({ frames := 2, cells := 0, slots := 0, locals := 24 } : Room) #[(.ref o0), (.ref o1), (.ref o2), (.int p3)] h0 (fun (v : Option Value) (h : Heap) (L : List Loc) => v = none ∧ Fr n0 L ∧ Keep h0 h [o0] ∧ Exa Z h o0 "com/example/holdfast/holdfast/internal/Route" ∧ Fld Z h o0 "com/example/holdfast/holdfast/internal/Route" "scheme" "Ljava/lang/String;" (.ref o1) ∧ Fld Z h o0 "com/example/holdfast/holdfast/internal/Route" "host" "Ljava/lang/String;" (.ref o2) ∧ Fld Z h o0 "com/example/holdfast/holdfast/internal/Route" "port" "I" (.int p3)) := by
  refine own_enter (plainFor_of_name own_pn_com_example_holdfast_holdfast_internal_Route) ?_
  intro p e s m below meth c s₁ P hx hby hml hrt hlk hown hnm hZ X0 e0 hP
  have N0 := Fr.nil n0
  have K0 := Keep.refl h0 [o0]
  have hml' : c.maxLocals = 4 := hml
  refine own_cast (own_efri m o0 o1 o2 p3) ?_
  show own_End p e below P (s₁.setTop (mkF m 0 #[.val (.ref o0), .val (.ref o1), .val (.ref o2), .val (.int p3)] []))
  refine own_st (fun _ => XS.aloadN X0.here hx rfl (hb hby own_dri_0) rfl rfl) ?_
  show own_End p e below P (s₁.setTop (mkF m 1 #[.val (.ref o0), .val (.ref o1), .val (.ref o2), .val (.int p3)] [(.ref o0)]))
  refine own_callI X0 hx hZ (y := (⟨"java/lang/Record", "<init>", "()V"⟩ : MethodName)) rfl hown (hw _ (List.mem_of_getElem? (i := 43) rfl)) (hw _ (List.mem_of_getElem? (i := 44) rfl)) (hw _ (List.mem_of_getElem? (i := 46) rfl)) (hw _ (List.mem_of_getElem? (i := 47) rfl)) (by decide) (own_mrec l Z a0 hw [] o0  h0 n0 (Nat.le_trans Z0 K0.1) ) 0 (by decide) (by decide) e0 (by decide) (by decide) (g := (mkF m 1 #[.val (.ref o0), .val (.ref o1), .val (.ref o2), .val (.int p3)] [(.ref o0)])) rfl (by rw [hml']; rfl) (a := o0) (argsL := []) (rest := []) rfl (lenOf own_pd_V_167 rfl) rfl (by show 2 * 0 + _ ≤ _; exact Nat.le_of_eq rfl) (hb hby own_dri_1) (fun r1 T1 L1 X1 hQ1 => ?_)
  obtain ⟨rfl, Nq1, eq1⟩ := hQ1
  have N1 := Fr.app N0 Nq1
  show own_End p e below P (T1.setTop (mkF m 4 #[.val (.ref o0), .val (.ref o1), .val (.ref o2), .val (.int p3)] []))
  refine own_st (fun _ => XS.aloadN X1.here hx rfl (hb hby own_dri_4) rfl rfl) ?_
  show own_End p e below P (T1.setTop (mkF m 5 #[.val (.ref o0), .val (.ref o1), .val (.ref o2), .val (.int p3)] [(.ref o0)]))
  refine own_st (fun _ => XS.aloadN X1.here hx rfl (hb hby own_dri_5) rfl rfl) ?_
  show own_End p e below P (T1.setTop (mkF m 6 #[.val (.ref o0), .val (.ref o1), .val (.ref o2), .val (.int p3)] [(.ref o1), (.ref o0)]))
  obtain ⟨T2, h2, X2, e2, W2, st2⟩ := putF X1 hx hZ hown (host := "") (Or.inl (hw _ (List.mem_of_getElem? (i := 49) rfl))) Via.refl eq1 F_o0_scheme E_o0 (Or.inr ⟨(hw _ (List.mem_of_getElem? (i := 50) rfl)), rfl, hnm⟩) (hw _ (List.mem_of_getElem? (i := 38) rfl)) (ty := (.object "java/lang/String")) (by decide) rfl rfl (g := (mkF m 6 #[.val (.ref o0), .val (.ref o1), .val (.ref o2), .val (.int p3)] [(.ref o1), (.ref o0)])) rfl rfl (hb hby own_dri_6)
  have N2 := Fr.snoc X2 N1 low_o0
  have K2 := Keep.wr K0 W2 (Or.inl (List.mem_of_getElem? (i := 0) rfl))
  have F2 := F_o0_scheme.same W2
  refine own_st (fun _ => st2 _) ?_
  show own_End p e below P (T2.setTop (mkF m 9 #[.val (.ref o0), .val (.ref o1), .val (.ref o2), .val (.int p3)] []))
  refine own_st (fun _ => XS.aloadN X2.here hx rfl (hb hby own_dri_9) rfl rfl) ?_
  show own_End p e below P (T2.setTop (mkF m 10 #[.val (.ref o0), .val (.ref o1), .val (.ref o2), .val (.int p3)] [(.ref o0)]))
  refine own_st (fun _ => XS.aloadN X2.here hx rfl (hb hby own_dri_10) rfl rfl) ?_
  show own_End p e below P (T2.setTop (mkF m 11 #[.val (.ref o0), .val (.ref o1), .val (.ref o2), .val (.int p3)] [(.ref o2), (.ref o0)]))
  have G3 := (F_o0_host.other W2 (Or.inr (slot_ne (Or.inr (hw _ (List.mem_of_getElem? (i := 52) rfl))) (Or.inr (hw _ (List.mem_of_getElem? (i := 50) rfl))) (by decide) (t := (.object "java/lang/String")) (t' := (.object "java/lang/String")) (by decide) (by decide))))
  have G4 := (E_o0.wr W2)
  obtain ⟨T5, h5, X5, e5, W5, st5⟩ := putF X2 hx hZ hown (host := "") (Or.inl (hw _ (List.mem_of_getElem? (i := 51) rfl))) Via.refl e2 G3 G4 (Or.inr ⟨(hw _ (List.mem_of_getElem? (i := 52) rfl)), rfl, hnm⟩) (hw _ (List.mem_of_getElem? (i := 38) rfl)) (ty := (.object "java/lang/String")) (by decide) rfl rfl (g := (mkF m 11 #[.val (.ref o0), .val (.ref o1), .val (.ref o2), .val (.int p3)] [(.ref o2), (.ref o0)])) rfl rfl (hb hby own_dri_11)
  have N5 := Fr.snoc X5 N2 low_o0
  have K5 := Keep.wr K2 W5 (Or.inl (List.mem_of_getElem? (i := 0) rfl))
  have F5 := G3.same W5
  refine own_st (fun _ => st5 _) ?_
  show own_End p e below P (T5.setTop (mkF m 14 #[.val (.ref o0), .val (.ref o1), .val (.ref o2), .val (.int p3)] []))
  refine own_st (fun _ => XS.aloadN X5.here hx rfl (hb hby own_dri_14) rfl rfl) ?_
  show own_End p e below P (T5.setTop (mkF m 15 #[.val (.ref o0), .val (.ref o1), .val (.ref o2), .val (.int p3)] [(.ref o0)]))
  refine own_st (fun _ => XS.iloadN X5.here hx rfl (hb hby own_dri_15) rfl) ?_
  show own_End p e below P (T5.setTop (mkF m 16 #[.val (.ref o0), .val (.ref o1), .val (.ref o2), .val (.int p3)] [(.int p3), (.ref o0)]))
  have G6 := ((F_o0_port.other W2 (Or.inr (slot_ne (Or.inr (hw _ (List.mem_of_getElem? (i := 54) rfl))) (Or.inr (hw _ (List.mem_of_getElem? (i := 50) rfl))) (by decide) (t := .int) (t' := (.object "java/lang/String")) (by decide) (by decide)))).other W5 (Or.inr (slot_ne (Or.inr (hw _ (List.mem_of_getElem? (i := 54) rfl))) (Or.inr (hw _ (List.mem_of_getElem? (i := 52) rfl))) (by decide) (t := .int) (t' := (.object "java/lang/String")) (by decide) (by decide))))
  have G7 := (G4.wr W5)
  obtain ⟨T8, h8, X8, e8, W8, st8⟩ := putF X5 hx hZ hown (host := "") (Or.inl (hw _ (List.mem_of_getElem? (i := 53) rfl))) Via.refl e5 G6 G7 (Or.inr ⟨(hw _ (List.mem_of_getElem? (i := 54) rfl)), rfl, hnm⟩) (hw _ (List.mem_of_getElem? (i := 38) rfl)) (ty := .int) (by decide) rfl rfl (g := (mkF m 16 #[.val (.ref o0), .val (.ref o1), .val (.ref o2), .val (.int p3)] [(.int p3), (.ref o0)])) rfl rfl (hb hby own_dri_16)
  have N8 := Fr.snoc X8 N5 low_o0
  have K8 := Keep.wr K5 W8 (Or.inl (List.mem_of_getElem? (i := 0) rfl))
  have F8 := G6.same W8
  refine own_st (fun _ => st8 _) ?_
  show own_End p e below P (T8.setTop (mkF m 19 #[.val (.ref o0), .val (.ref o1), .val (.ref o2), .val (.int p3)] []))
  have G9 := (G7.wr W8)
  have G10 := ((F2.other W5 (Or.inr (slot_ne (Or.inr (hw _ (List.mem_of_getElem? (i := 50) rfl))) (Or.inr (hw _ (List.mem_of_getElem? (i := 52) rfl))) (by decide) (t := (.object "java/lang/String")) (t' := (.object "java/lang/String")) (by decide) (by decide)))).other W8 (Or.inr (slot_ne (Or.inr (hw _ (List.mem_of_getElem? (i := 50) rfl))) (Or.inr (hw _ (List.mem_of_getElem? (i := 54) rfl))) (by decide) (t := (.object "java/lang/String")) (t' := .int) (by decide) (by decide))))
  have G11 := (F5.other W8 (Or.inr (slot_ne (Or.inr (hw _ (List.mem_of_getElem? (i := 52) rfl))) (Or.inr (hw _ (List.mem_of_getElem? (i := 54) rfl))) (by decide) (t := (.object "java/lang/String")) (t' := .int) (by decide) (by decide))))
  have hfin : ((fun (v : Option Value) (h : Heap) (L : List Loc) => v = none ∧ Fr n0 L ∧ Keep h0 h [o0] ∧ Exa Z h o0 "com/example/holdfast/holdfast/internal/Route" ∧ Fld Z h o0 "com/example/holdfast/holdfast/internal/Route" "scheme" "Ljava/lang/String;" (.ref o1) ∧ Fld Z h o0 "com/example/holdfast/holdfast/internal/Route" "host" "Ljava/lang/String;" (.ref o2) ∧ Fld Z h o0 "com/example/holdfast/holdfast/internal/Route" "port" "I" (.int p3))) none h8 _ := ⟨rfl, N8, K8, G9, G10, G11, F8⟩
  refine own_retV X8 hx hlk hP hrt (hb hby own_dri_19) (by decide) (by decide) ?_
  rw [e8]; exact hfin
theorem own_mkl_len (x : Int32) : (own_mkl x).length ≤ 3 := by
  unfold own_mkl
  repeat' split
  all_goals simp
theorem own_sq_eq (xs ys : List Int32) (cs : Int32) : own_fsq xs ys cs = if xs = ys then 1 else 0 := by
  unfold own_fsq own_feqm
  by_cases h : xs = ys <;> simp [h]
theorem own_req_eq (a b c d : List Int32) (p q cs : Int32) : own_freq a b c d p q cs = if p = q ∧ a = c ∧ b = d then 1 else 0 := by
  unfold own_freq
  rw [own_sq_eq, own_sq_eq]
  by_cases h1 : p = q <;> by_cases h2 : a = c <;> by_cases h3 : b = d <;> simp [h1, h2, h3]
def own_bb (u : Int32) : Int32 := nar .byte ((nar .char ((u &&& (255 : Int32)).toUInt32.toUInt16.toUInt32.toInt32)).toInt8.toInt32)
theorem own_bb' : ∀ n : Fin 256, nar .byte ((nar .char ((Int32.ofNat n.val).toUInt32.toUInt16.toUInt32.toInt32)).toInt8.toInt32) &&& (255 : Int32) = Int32.ofNat n.val := by decide +kernel
theorem own_bbi (u v : Int32) : own_bb u = own_bb v ↔ u &&& (255 : Int32) = v &&& (255 : Int32) := by
  constructor
  · intro q
    have := congrArg (· &&& (255 : Int32)) q
    unfold own_bb at this
    obtain ⟨n, en⟩ := own_and255 u
    obtain ⟨k, ek⟩ := own_and255 v
    rw [en, ek] at this ⊢
    simpa only [own_bb'] using this
  · intro q; unfold own_bb; rw [q]
theorem own_and3 (x : Int32) : x &&& (3 : Int32) = 0 ∨ x &&& (3 : Int32) = 1 ∨ x &&& (3 : Int32) = 2 ∨ x &&& (3 : Int32) = 3 := by
  have e : ∃ n : Fin 4, x &&& (3 : Int32) = Int32.ofNat n.val := by
    refine ⟨⟨x.toBitVec.toNat % 4, Nat.mod_lt _ (by decide)⟩, ?_⟩
    rw [← Int32.toBitVec_inj]
    apply BitVec.eq_of_toNat_eq
    show (x.toBitVec &&& 3#32).toNat = (BitVec.ofNat 32 (x.toBitVec.toNat % 4)).toNat
    rw [BitVec.toNat_and, BitVec.toNat_ofNat, BitVec.toNat_ofNat, show 3 % 2 ^ 32 = 2 ^ 2 - 1 from rfl, Nat.and_two_pow_sub_one_eq_mod]
    omega
  obtain ⟨n, e⟩ := e
  rw [e]
  clear e
  revert n
  decide +kernel
def own_u (k : Int32) (x : Int32) : Int32 := (x.toUInt32 >>> (k &&& 31).toUInt32).toInt32
theorem own_mkl_eq (x : Int32) : own_mkl x = if x &&& (3 : Int32) = 0 then [] else if x &&& (3 : Int32) = 1 then [own_bb (own_u 2 x)] else if x &&& (3 : Int32) = 2 then [own_bb (own_u 2 x), own_bb (own_u 10 x)] else [own_bb (own_u 2 x), own_bb (own_u 10 x), own_bb (own_u 18 x)] := rfl
theorem own_same_eq (x y : Int32) : own_fsame x y = if own_mkl x = own_mkl y then 1 else 0 := by
  rw [own_mkl_eq, own_mkl_eq]
  unfold own_fsame
  rcases own_and3 x with hx | hx | hx | hx <;> rcases own_and3 y with hy | hy | hy | hy <;> simp [hx, hy, own_bbi, own_u]
  all_goals (repeat' split)
  all_goals simp_all
theorem own_ne0 {s t : Int32} (k : ¬ own_fsame s t = 0) : own_mkl s = own_mkl t := by
  rw [own_same_eq] at k
  by_cases h : own_mkl s = own_mkl t
  · exact h
  · simp [h] at k
theorem own_eq0 {s t : Int32} (k : own_fsame s t = 0) : ¬ own_mkl s = own_mkl t := by
  rw [own_same_eq] at k
  intro h
  simp [h] at k
theorem own_d1 {s t : Int32} {a c : List Int32} {p q cs : Int32} (k : own_fsame s t = 0) : own_freq a (own_mkl s) c (own_mkl t) p q cs = 0 := by rw [own_req_eq]; exact if_neg fun z => own_eq0 k z.2.2
theorem own_d1' {s t : Int32} {a c : List Int32} {p q cs : Int32} (k : own_fsame s t = 0) : own_freq a (own_mkl t) c (own_mkl s) p q cs = 0 := by rw [own_req_eq]; exact if_neg fun z => own_eq0 k z.2.2.symm
theorem own_d2 {s t : Int32} {a c : List Int32} {p q cs : Int32} (k : own_fsame s t = 0) : own_freq (own_mkl s) a (own_mkl t) c p q cs = 0 := by rw [own_req_eq]; exact if_neg fun z => own_eq0 k z.2.1
theorem own_d2' {s t : Int32} {a c : List Int32} {p q cs : Int32} (k : own_fsame s t = 0) : own_freq (own_mkl t) a (own_mkl s) c p q cs = 0 := by rw [own_req_eq]; exact if_neg fun z => own_eq0 k z.2.1.symm
theorem own_d3 {a b c d : List Int32} {p q cs : Int32} (k : ¬ p = q) : own_freq a b c d p q cs = 0 := by rw [own_req_eq]; exact if_neg fun z => k z.1
theorem own_d3' {a b c d : List Int32} {p q cs : Int32} (k : ¬ p = q) : own_freq a b c d q p cs = 0 := by rw [own_req_eq]; exact if_neg fun z => k z.1.symm
theorem own_d4 {s t h u p q cs : Int32} (k1 : ¬ own_fsame s t = 0) (k2 : ¬ own_fsame h u = 0) (k3 : p = q) : own_freq (own_mkl h) (own_mkl s) (own_mkl u) (own_mkl t) p q cs = 1 := by rw [own_req_eq]; exact if_pos ⟨k3, own_ne0 k2, own_ne0 k1⟩
theorem own_d4' {s t h u p q cs : Int32} (k1 : ¬ own_fsame s t = 0) (k2 : ¬ own_fsame h u = 0) (k3 : p = q) : own_freq (own_mkl u) (own_mkl t) (own_mkl h) (own_mkl s) q p cs = 1 := by rw [own_req_eq]; exact if_pos ⟨k3.symm, (own_ne0 k2).symm, (own_ne0 k1).symm⟩
theorem own_d5 {s t h u p q : Int32} (k1 : ¬ own_fsame s t = 0) (k2 : ¬ own_fsame h u = 0) (k3 : p = q) : ((((own_fhl (own_mkl s)) * (31 : Int32)) + (own_fhl (own_mkl h))) * (31 : Int32)) + p = ((((own_fhl (own_mkl t)) * (31 : Int32)) + (own_fhl (own_mkl u))) * (31 : Int32)) + q := by rw [own_ne0 k1, own_ne0 k2, k3]
theorem own_pd_I_Ljava_lang_String_853 : parseMethodDescriptor "(I)Ljava/lang/String;" = some ⟨[.int], some (.object "java/lang/String")⟩ := by decide +kernel
theorem own_pd_Ljava_lang_String_Ljava_lang_String_I_V_641 : parseMethodDescriptor "(Ljava/lang/String;Ljava/lang/String;I)V" = some ⟨[(.object "java/lang/String"), (.object "java/lang/String"), .int], none⟩ := by decide +kernel
theorem own_pd_II_Z_317 : parseMethodDescriptor "(II)Z" = some ⟨[.int, .int], some .boolean⟩ := by decide +kernel
theorem own_ef0 (m : MethodId) (p0 : Int32) (p1 : Int32) (p2 : Int32) (p3 : Int32) (p4 : Int32) (q5 : Int64) : entryFrame m #[(.int p0), (.int p1), (.int p2), (.int p3), (.int p4), (.long q5)] maxLocals = mkF m 0 #[.val (.int p0), .val (.int p1), .val (.int p2), .val (.int p3), .val (.int p4), .val (.long q5), .second, .unset, .unset, .unset, .unset, .unset, .unset, .unset, .unset, .unset, .unset, .unset, .unset, .unset, .unset, .unset, .unset] [] := by first | (simp [entryFrame, mkF, argsToLocals, Value.category, maxLocals]; done) | rfl
set_option maxRecDepth 65536 in
set_option maxHeartbeats 40000000 in
theorem own_m0 (l : Launch) (Z : State) (a0 : Array Value) (hw : ∀ d ∈ tables_1, d.before a0 Z = true) (ws : List Jvm.Cond) (p0 : Int32) (p1 : Int32) (p2 : Int32) (p3 : Int32) (p4 : Int32) (q5 : Int64) (s_String_COMPACT_STRINGS : Int32) (h0 : Heap) (n0 : Nat) (Z0 : n0 ≤ h0.size) (S_String_COMPACT_STRINGS : Sta Z h0 "java/lang/String" "COMPACT_STRINGS" "Z" (.int s_String_COMPACT_STRINGS)) (hnz : ¬ (s_String_COMPACT_STRINGS = (0 : Int32))) :
    own_MetX l Z consts_1 x code maxLocals ret ws room_1 #[(.int p0), (.int p1), (.int p2), (.int p3), (.int p4), (.long q5)] h0 (fun (v : Option Value) (h : Heap) (L : List Loc) => v = some (.int 1) ∧ Fr n0 L) := by
  refine own_enterX (plainFor_of_name own_pn_com_example_holdfast_holdfast_internal_RouteEqualsPinLaw) ?_
  intro p e s m below meth c s₁ P vm0 k0 hx hby hml hrt hlk hown hnm hZ X0 e0 hS hk hC hP
  have N0 := Fr.nil n0
  have K0 := Keep.refl h0 []
  have hml' : c.maxLocals = 23 := hml
  have hEL := own_EW hw
  refine own_cast (own_ef0 m p0 p1 p2 p3 p4 q5) ?_
  show own_End p e below P (s₁.setTop (mkF m 0 #[.val (.int p0), .val (.int p1), .val (.int p2), .val (.int p3), .val (.int p4), .val (.long q5), .second, .unset, .unset, .unset, .unset, .unset, .unset, .unset, .unset, .unset, .unset, .unset, .unset, .unset, .unset, .unset, .unset] []))
  refine own_st (fun _ => XS.iload X0.here hx rfl (hb hby at_0) rfl) ?_
  show own_End p e below P (s₁.setTop (mkF m 2 #[.val (.int p0), .val (.int p1), .val (.int p2), .val (.int p3), .val (.int p4), .val (.long q5), .second, .unset, .unset, .unset, .unset, .unset, .unset, .unset, .unset, .unset, .unset, .unset, .unset, .unset, .unset, .unset, .unset] [(.int p4)]))
  refine own_st (fun _ => XS.iconst X0.here hx rfl (hb hby at_2)) ?_
  show own_End p e below P (s₁.setTop (mkF m 3 #[.val (.int p0), .val (.int p1), .val (.int p2), .val (.int p3), .val (.int p4), .val (.long q5), .second, .unset, .unset, .unset, .unset, .unset, .unset, .unset, .unset, .unset, .unset, .unset, .unset, .unset, .unset, .unset, .unset] [(.int (2 : Int32)), (.int p4)]))
  refine own_st (fun _ => XS.iand X0.here hx rfl (hb hby at_3) rfl) ?_
  show own_End p e below P (s₁.setTop (mkF m 4 #[.val (.int p0), .val (.int p1), .val (.int p2), .val (.int p3), .val (.int p4), .val (.long q5), .second, .unset, .unset, .unset, .unset, .unset, .unset, .unset, .unset, .unset, .unset, .unset, .unset, .unset, .unset, .unset, .unset] [(.int (p4 &&& (2 : Int32)))]))
  have J3 : ∀ v2 : Int32, v2 = (if (p4 &&& (2 : Int32)) = (0 : Int32) then (p0 ^^^ (q5.toInt32)) else p0) → own_End p e below P (s₁.setTop (mkF m 16 #[.val (.int p0), .val (.int p1), .val (.int p2), .val (.int p3), .val (.int p4), .val (.long q5), .second, .unset, .unset, .unset, .unset, .unset, .unset, .unset, .unset, .unset, .unset, .unset, .unset, .unset, .unset, .unset, .unset] [(.int v2)])) := by
    intro v2 e_v2
    refine own_st (fun _ => XS.istore X0.here hx rfl (hb hby at_16) rfl (l' := #[.val (.int p0), .val (.int p1), .val (.int p2), .val (.int p3), .val (.int p4), .val (.long q5), .second, .val (.int v2), .unset, .unset, .unset, .unset, .unset, .unset, .unset, .unset, .unset, .unset, .unset, .unset, .unset, .unset, .unset]) rfl) ?_
    show own_End p e below P (s₁.setTop (mkF m 18 #[.val (.int p0), .val (.int p1), .val (.int p2), .val (.int p3), .val (.int p4), .val (.long q5), .second, .val (.int v2), .unset, .unset, .unset, .unset, .unset, .unset, .unset, .unset, .unset, .unset, .unset, .unset, .unset, .unset, .unset] []))
    refine own_st (fun _ => XS.iload X0.here hx rfl (hb hby at_18) rfl) ?_
    show own_End p e below P (s₁.setTop (mkF m 20 #[.val (.int p0), .val (.int p1), .val (.int p2), .val (.int p3), .val (.int p4), .val (.long q5), .second, .val (.int v2), .unset, .unset, .unset, .unset, .unset, .unset, .unset, .unset, .unset, .unset, .unset, .unset, .unset, .unset, .unset] [(.int p4)]))
    refine own_st (fun _ => XS.iconst X0.here hx rfl (hb hby at_20)) ?_
    show own_End p e below P (s₁.setTop (mkF m 21 #[.val (.int p0), .val (.int p1), .val (.int p2), .val (.int p3), .val (.int p4), .val (.long q5), .second, .val (.int v2), .unset, .unset, .unset, .unset, .unset, .unset, .unset, .unset, .unset, .unset, .unset, .unset, .unset, .unset, .unset] [(.int (4 : Int32)), (.int p4)]))
    refine own_st (fun _ => XS.iand X0.here hx rfl (hb hby at_21) rfl) ?_
    show own_End p e below P (s₁.setTop (mkF m 22 #[.val (.int p0), .val (.int p1), .val (.int p2), .val (.int p3), .val (.int p4), .val (.long q5), .second, .val (.int v2), .unset, .unset, .unset, .unset, .unset, .unset, .unset, .unset, .unset, .unset, .unset, .unset, .unset, .unset, .unset] [(.int (p4 &&& (4 : Int32)))]))
    have J6 : ∀ v5 : Int32, v5 = (if (p4 &&& (4 : Int32)) = (0 : Int32) then (p1 ^^^ (((q5.toUInt64 >>> ((32 : Int32) &&& 0x3f).toInt64.toUInt64).toInt64).toInt32)) else p1) → own_End p e below P (s₁.setTop (mkF m 37 #[.val (.int p0), .val (.int p1), .val (.int p2), .val (.int p3), .val (.int p4), .val (.long q5), .second, .val (.int v2), .unset, .unset, .unset, .unset, .unset, .unset, .unset, .unset, .unset, .unset, .unset, .unset, .unset, .unset, .unset] [(.int v5)])) := by
      intro v5 e_v5
      refine own_st (fun _ => XS.istore X0.here hx rfl (hb hby at_37) rfl (l' := #[.val (.int p0), .val (.int p1), .val (.int p2), .val (.int p3), .val (.int p4), .val (.long q5), .second, .val (.int v2), .val (.int v5), .unset, .unset, .unset, .unset, .unset, .unset, .unset, .unset, .unset, .unset, .unset, .unset, .unset, .unset]) rfl) ?_
      show own_End p e below P (s₁.setTop (mkF m 39 #[.val (.int p0), .val (.int p1), .val (.int p2), .val (.int p3), .val (.int p4), .val (.long q5), .second, .val (.int v2), .val (.int v5), .unset, .unset, .unset, .unset, .unset, .unset, .unset, .unset, .unset, .unset, .unset, .unset, .unset, .unset] []))
      refine own_st (fun _ => XS.iload X0.here hx rfl (hb hby at_39) rfl) ?_
      show own_End p e below P (s₁.setTop (mkF m 41 #[.val (.int p0), .val (.int p1), .val (.int p2), .val (.int p3), .val (.int p4), .val (.long q5), .second, .val (.int v2), .val (.int v5), .unset, .unset, .unset, .unset, .unset, .unset, .unset, .unset, .unset, .unset, .unset, .unset, .unset, .unset] [(.int p4)]))
      refine own_st (fun _ => XS.iconst X0.here hx rfl (hb hby at_41)) ?_
      show own_End p e below P (s₁.setTop (mkF m 42 #[.val (.int p0), .val (.int p1), .val (.int p2), .val (.int p3), .val (.int p4), .val (.long q5), .second, .val (.int v2), .val (.int v5), .unset, .unset, .unset, .unset, .unset, .unset, .unset, .unset, .unset, .unset, .unset, .unset, .unset, .unset] [(.int (1 : Int32)), (.int p4)]))
      refine own_st (fun _ => XS.iand X0.here hx rfl (hb hby at_42) rfl) ?_
      show own_End p e below P (s₁.setTop (mkF m 43 #[.val (.int p0), .val (.int p1), .val (.int p2), .val (.int p3), .val (.int p4), .val (.long q5), .second, .val (.int v2), .val (.int v5), .unset, .unset, .unset, .unset, .unset, .unset, .unset, .unset, .unset, .unset, .unset, .unset, .unset, .unset] [(.int (p4 &&& (1 : Int32)))]))
      have J9 : ∀ v8 : Int32, v8 = (if (p4 &&& (1 : Int32)) = (0 : Int32) then p3 else p2) → own_End p e below P (s₁.setTop (mkF m 51 #[.val (.int p0), .val (.int p1), .val (.int p2), .val (.int p3), .val (.int p4), .val (.long q5), .second, .val (.int v2), .val (.int v5), .unset, .unset, .unset, .unset, .unset, .unset, .unset, .unset, .unset, .unset, .unset, .unset, .unset, .unset] [(.int v8)])) := by
        intro v8 e_v8
        refine own_st (fun _ => XS.istore X0.here hx rfl (hb hby at_51) rfl (l' := #[.val (.int p0), .val (.int p1), .val (.int p2), .val (.int p3), .val (.int p4), .val (.long q5), .second, .val (.int v2), .val (.int v5), .val (.int v8), .unset, .unset, .unset, .unset, .unset, .unset, .unset, .unset, .unset, .unset, .unset, .unset, .unset]) rfl) ?_
        show own_End p e below P (s₁.setTop (mkF m 53 #[.val (.int p0), .val (.int p1), .val (.int p2), .val (.int p3), .val (.int p4), .val (.long q5), .second, .val (.int v2), .val (.int v5), .val (.int v8), .unset, .unset, .unset, .unset, .unset, .unset, .unset, .unset, .unset, .unset, .unset, .unset, .unset] []))
        refine own_st (fun _ => XS.iloadN X0.here hx rfl (hb hby at_53) rfl) ?_
        show own_End p e below P (s₁.setTop (mkF m 54 #[.val (.int p0), .val (.int p1), .val (.int p2), .val (.int p3), .val (.int p4), .val (.long q5), .second, .val (.int v2), .val (.int v5), .val (.int v8), .unset, .unset, .unset, .unset, .unset, .unset, .unset, .unset, .unset, .unset, .unset, .unset, .unset] [(.int p0)]))
        refine own_callSH X0 hS hk hEL hC hx hZ (y := (⟨"com/example/holdfast/holdfast/internal/RouteEqualsPinLaw", "mk", "(I)Ljava/lang/String;"⟩ : MethodName)) hown (hw _ (List.mem_of_getElem? (i := 0) rfl)) (hw _ (List.mem_of_getElem? (i := 1) rfl)) (hw _ (List.mem_of_getElem? (i := 2) rfl)) (hw _ (List.mem_of_getElem? (i := 3) rfl)) (by decide) (own_mmk l Z a0 hw [] p0 s_String_COMPACT_STRINGS h0 n0 (Nat.le_trans Z0 K0.1) S_String_COMPACT_STRINGS hnz) 0 (by decide) (by decide) e0 (by decide) (by decide) (g := (mkF m 54 #[.val (.int p0), .val (.int p1), .val (.int p2), .val (.int p3), .val (.int p4), .val (.long q5), .second, .val (.int v2), .val (.int v5), .val (.int v8), .unset, .unset, .unset, .unset, .unset, .unset, .unset, .unset, .unset, .unset, .unset, .unset, .unset] [(.int p0)])) rfl (by rw [hml']; rfl) (argsL := [(.int p0)]) (rest := []) rfl (lenOf own_pd_I_Ljava_lang_String_853 rfl) rfl (by show 2 * 0 + _ ≤ _; exact Nat.le_of_eq rfl) (hb hby at_54) (fun r10 T10 L10 X10 hQ10 hS hZ hown hC => ?_)
        obtain ⟨a10, v10, rfl, Nq10, Kq10, szq10, lw10, ea10, fv10, fc10, fh10, fz10, ba10⟩ := hQ10
        have N10 := Fr.app N0 Nq10
        have sz10 := Nat.le_trans K0.1 szq10
        have K10 := Keep.trans K0 Kq10 all0
        have ne11 := own_neBA (hw _ (List.mem_of_getElem? (i := 5) rfl)) ea10 ba10
        have hk10 : T10.heap.size ≤ T10.heap.size := Nat.le_refl _
        show own_End p e below P (T10.setTop (mkF m 57 #[.val (.int p0), .val (.int p1), .val (.int p2), .val (.int p3), .val (.int p4), .val (.long q5), .second, .val (.int v2), .val (.int v5), .val (.int v8), .unset, .unset, .unset, .unset, .unset, .unset, .unset, .unset, .unset, .unset, .unset, .unset, .unset] [(.ref a10)]))
        refine own_st (fun _ => XS.astore X10.here hx rfl (hb hby at_57) rfl rfl (l' := #[.val (.int p0), .val (.int p1), .val (.int p2), .val (.int p3), .val (.int p4), .val (.long q5), .second, .val (.int v2), .val (.int v5), .val (.int v8), .val (.ref a10), .unset, .unset, .unset, .unset, .unset, .unset, .unset, .unset, .unset, .unset, .unset, .unset]) rfl) ?_
        show own_End p e below P (T10.setTop (mkF m 59 #[.val (.int p0), .val (.int p1), .val (.int p2), .val (.int p3), .val (.int p4), .val (.long q5), .second, .val (.int v2), .val (.int v5), .val (.int v8), .val (.ref a10), .unset, .unset, .unset, .unset, .unset, .unset, .unset, .unset, .unset, .unset, .unset, .unset] []))
        refine own_st (fun _ => XS.iload X10.here hx rfl (hb hby at_59) rfl) ?_
        show own_End p e below P (T10.setTop (mkF m 61 #[.val (.int p0), .val (.int p1), .val (.int p2), .val (.int p3), .val (.int p4), .val (.long q5), .second, .val (.int v2), .val (.int v5), .val (.int v8), .val (.ref a10), .unset, .unset, .unset, .unset, .unset, .unset, .unset, .unset, .unset, .unset, .unset, .unset] [(.int v2)]))
        have G13 := (own_StaKeep S_String_COMPACT_STRINGS Kq10 all0)
        refine own_callSH X10 hS hk10 hEL hC hx hZ (y := (⟨"com/example/holdfast/holdfast/internal/RouteEqualsPinLaw", "mk", "(I)Ljava/lang/String;"⟩ : MethodName)) hown (hw _ (List.mem_of_getElem? (i := 0) rfl)) (hw _ (List.mem_of_getElem? (i := 1) rfl)) (hw _ (List.mem_of_getElem? (i := 2) rfl)) (hw _ (List.mem_of_getElem? (i := 3) rfl)) (by decide) (own_mmk l Z a0 hw [] v2 s_String_COMPACT_STRINGS T10.heap n0 (Nat.le_trans Z0 K10.1) G13 hnz) 0 (by decide) (by decide) rfl (by decide) (by decide) (g := (mkF m 61 #[.val (.int p0), .val (.int p1), .val (.int p2), .val (.int p3), .val (.int p4), .val (.long q5), .second, .val (.int v2), .val (.int v5), .val (.int v8), .val (.ref a10), .unset, .unset, .unset, .unset, .unset, .unset, .unset, .unset, .unset, .unset, .unset, .unset] [(.int v2)])) rfl (by rw [hml']; rfl) (argsL := [(.int v2)]) (rest := []) rfl (lenOf own_pd_I_Ljava_lang_String_853 rfl) rfl (by show 2 * 0 + _ ≤ _; exact Nat.le_of_eq rfl) (hb hby at_61) (fun r12 T12 L12 X12 hQ12 hS hZ hown hC => ?_)
        obtain ⟨a12, v12, rfl, Nq12, Kq12, szq12, lw12, ea12, fv12, fc12, fh12, fz12, ba12⟩ := hQ12
        have N12 := Fr.app N10 Nq12
        have ne14 : a10 ≠ a12 := Nat.ne_of_lt (Nat.lt_of_lt_of_le ea10.lt szq12)
        have ne15 : v10 ≠ a12 := Nat.ne_of_lt (Nat.lt_of_lt_of_le ba10.lt szq12)
        have sz12 := Nat.le_trans K10.1 szq12
        have K12 := Keep.trans K10 Kq12 all0
        have G17 := (ea10.keep Kq12)
        have ne16 := own_neBA (hw _ (List.mem_of_getElem? (i := 5) rfl)) G17 ba12
        have ne18 := own_neBA (hw _ (List.mem_of_getElem? (i := 5) rfl)) ea12 ba12
        have hk12 : T12.heap.size ≤ T12.heap.size := Nat.le_refl _
        show own_End p e below P (T12.setTop (mkF m 64 #[.val (.int p0), .val (.int p1), .val (.int p2), .val (.int p3), .val (.int p4), .val (.long q5), .second, .val (.int v2), .val (.int v5), .val (.int v8), .val (.ref a10), .unset, .unset, .unset, .unset, .unset, .unset, .unset, .unset, .unset, .unset, .unset, .unset] [(.ref a12)]))
        refine own_st (fun _ => XS.astore X12.here hx rfl (hb hby at_64) rfl rfl (l' := #[.val (.int p0), .val (.int p1), .val (.int p2), .val (.int p3), .val (.int p4), .val (.long q5), .second, .val (.int v2), .val (.int v5), .val (.int v8), .val (.ref a10), .val (.ref a12), .unset, .unset, .unset, .unset, .unset, .unset, .unset, .unset, .unset, .unset, .unset]) rfl) ?_
        show own_End p e below P (T12.setTop (mkF m 66 #[.val (.int p0), .val (.int p1), .val (.int p2), .val (.int p3), .val (.int p4), .val (.long q5), .second, .val (.int v2), .val (.int v5), .val (.int v8), .val (.ref a10), .val (.ref a12), .unset, .unset, .unset, .unset, .unset, .unset, .unset, .unset, .unset, .unset, .unset] []))
        refine own_st (fun _ => XS.iloadN X12.here hx rfl (hb hby at_66) rfl) ?_
        show own_End p e below P (T12.setTop (mkF m 67 #[.val (.int p0), .val (.int p1), .val (.int p2), .val (.int p3), .val (.int p4), .val (.long q5), .second, .val (.int v2), .val (.int v5), .val (.int v8), .val (.ref a10), .val (.ref a12), .unset, .unset, .unset, .unset, .unset, .unset, .unset, .unset, .unset, .unset, .unset] [(.int p1)]))
        have G20 := (own_StaKeep G13 Kq12 all0)
        refine own_callSH X12 hS hk12 hEL hC hx hZ (y := (⟨"com/example/holdfast/holdfast/internal/RouteEqualsPinLaw", "mk", "(I)Ljava/lang/String;"⟩ : MethodName)) hown (hw _ (List.mem_of_getElem? (i := 0) rfl)) (hw _ (List.mem_of_getElem? (i := 1) rfl)) (hw _ (List.mem_of_getElem? (i := 2) rfl)) (hw _ (List.mem_of_getElem? (i := 3) rfl)) (by decide) (own_mmk l Z a0 hw [] p1 s_String_COMPACT_STRINGS T12.heap n0 (Nat.le_trans Z0 K12.1) G20 hnz) 0 (by decide) (by decide) rfl (by decide) (by decide) (g := (mkF m 67 #[.val (.int p0), .val (.int p1), .val (.int p2), .val (.int p3), .val (.int p4), .val (.long q5), .second, .val (.int v2), .val (.int v5), .val (.int v8), .val (.ref a10), .val (.ref a12), .unset, .unset, .unset, .unset, .unset, .unset, .unset, .unset, .unset, .unset, .unset] [(.int p1)])) rfl (by rw [hml']; rfl) (argsL := [(.int p1)]) (rest := []) rfl (lenOf own_pd_I_Ljava_lang_String_853 rfl) rfl (by show 2 * 0 + _ ≤ _; exact Nat.le_of_eq rfl) (hb hby at_67) (fun r19 T19 L19 X19 hQ19 hS hZ hown hC => ?_)
        obtain ⟨a19, v19, rfl, Nq19, Kq19, szq19, lw19, ea19, fv19, fc19, fh19, fz19, ba19⟩ := hQ19
        have N19 := Fr.app N12 Nq19
        have ne21 : a10 ≠ a19 := Nat.ne_of_lt (Nat.lt_of_lt_of_le G17.lt szq19)
        have ne22 : a12 ≠ a19 := Nat.ne_of_lt (Nat.lt_of_lt_of_le ea12.lt szq19)
        have G23 := (ba10.keep Kq12 nin0)
        have ne24 : v10 ≠ a19 := Nat.ne_of_lt (Nat.lt_of_lt_of_le G23.lt szq19)
        have ne25 : v12 ≠ a19 := Nat.ne_of_lt (Nat.lt_of_lt_of_le ba12.lt szq19)
        have sz19 := Nat.le_trans K12.1 szq19
        have K19 := Keep.trans K12 Kq19 all0
        have G27 := (G17.keep Kq19)
        have ne26 := own_neBA (hw _ (List.mem_of_getElem? (i := 5) rfl)) G27 ba19
        have G29 := (ea12.keep Kq19)
        have ne28 := own_neBA (hw _ (List.mem_of_getElem? (i := 5) rfl)) G29 ba19
        have ne30 := own_neBA (hw _ (List.mem_of_getElem? (i := 5) rfl)) ea19 ba19
        have hk19 : T19.heap.size ≤ T19.heap.size := Nat.le_refl _
        show own_End p e below P (T19.setTop (mkF m 70 #[.val (.int p0), .val (.int p1), .val (.int p2), .val (.int p3), .val (.int p4), .val (.long q5), .second, .val (.int v2), .val (.int v5), .val (.int v8), .val (.ref a10), .val (.ref a12), .unset, .unset, .unset, .unset, .unset, .unset, .unset, .unset, .unset, .unset, .unset] [(.ref a19)]))
        refine own_st (fun _ => XS.astore X19.here hx rfl (hb hby at_70) rfl rfl (l' := #[.val (.int p0), .val (.int p1), .val (.int p2), .val (.int p3), .val (.int p4), .val (.long q5), .second, .val (.int v2), .val (.int v5), .val (.int v8), .val (.ref a10), .val (.ref a12), .val (.ref a19), .unset, .unset, .unset, .unset, .unset, .unset, .unset, .unset, .unset, .unset]) rfl) ?_
        show own_End p e below P (T19.setTop (mkF m 72 #[.val (.int p0), .val (.int p1), .val (.int p2), .val (.int p3), .val (.int p4), .val (.long q5), .second, .val (.int v2), .val (.int v5), .val (.int v8), .val (.ref a10), .val (.ref a12), .val (.ref a19), .unset, .unset, .unset, .unset, .unset, .unset, .unset, .unset, .unset, .unset] []))
        refine own_st (fun _ => XS.iload X19.here hx rfl (hb hby at_72) rfl) ?_
        show own_End p e below P (T19.setTop (mkF m 74 #[.val (.int p0), .val (.int p1), .val (.int p2), .val (.int p3), .val (.int p4), .val (.long q5), .second, .val (.int v2), .val (.int v5), .val (.int v8), .val (.ref a10), .val (.ref a12), .val (.ref a19), .unset, .unset, .unset, .unset, .unset, .unset, .unset, .unset, .unset, .unset] [(.int v5)]))
        have G32 := (own_StaKeep G20 Kq19 all0)
        refine own_callSH X19 hS hk19 hEL hC hx hZ (y := (⟨"com/example/holdfast/holdfast/internal/RouteEqualsPinLaw", "mk", "(I)Ljava/lang/String;"⟩ : MethodName)) hown (hw _ (List.mem_of_getElem? (i := 0) rfl)) (hw _ (List.mem_of_getElem? (i := 1) rfl)) (hw _ (List.mem_of_getElem? (i := 2) rfl)) (hw _ (List.mem_of_getElem? (i := 3) rfl)) (by decide) (own_mmk l Z a0 hw [] v5 s_String_COMPACT_STRINGS T19.heap n0 (Nat.le_trans Z0 K19.1) G32 hnz) 0 (by decide) (by decide) rfl (by decide) (by decide) (g := (mkF m 74 #[.val (.int p0), .val (.int p1), .val (.int p2), .val (.int p3), .val (.int p4), .val (.long q5), .second, .val (.int v2), .val (.int v5), .val (.int v8), .val (.ref a10), .val (.ref a12), .val (.ref a19), .unset, .unset, .unset, .unset, .unset, .unset, .unset, .unset, .unset, .unset] [(.int v5)])) rfl (by rw [hml']; rfl) (argsL := [(.int v5)]) (rest := []) rfl (lenOf own_pd_I_Ljava_lang_String_853 rfl) rfl (by show 2 * 0 + _ ≤ _; exact Nat.le_of_eq rfl) (hb hby at_74) (fun r31 T31 L31 X31 hQ31 hS hZ hown hC => ?_)
        obtain ⟨a31, v31, rfl, Nq31, Kq31, szq31, lw31, ea31, fv31, fc31, fh31, fz31, ba31⟩ := hQ31
        have N31 := Fr.app N19 Nq31
        have ne33 : a10 ≠ a31 := Nat.ne_of_lt (Nat.lt_of_lt_of_le G27.lt szq31)
        have ne34 : a12 ≠ a31 := Nat.ne_of_lt (Nat.lt_of_lt_of_le G29.lt szq31)
        have ne35 : a19 ≠ a31 := Nat.ne_of_lt (Nat.lt_of_lt_of_le ea19.lt szq31)
        have G36 := (G23.keep Kq19 nin0)
        have ne37 : v10 ≠ a31 := Nat.ne_of_lt (Nat.lt_of_lt_of_le G36.lt szq31)
        have G38 := (ba12.keep Kq19 nin0)
        have ne39 : v12 ≠ a31 := Nat.ne_of_lt (Nat.lt_of_lt_of_le G38.lt szq31)
        have ne40 : v19 ≠ a31 := Nat.ne_of_lt (Nat.lt_of_lt_of_le ba19.lt szq31)
        have sz31 := Nat.le_trans K19.1 szq31
        have K31 := Keep.trans K19 Kq31 all0
        have G42 := (G27.keep Kq31)
        have ne41 := own_neBA (hw _ (List.mem_of_getElem? (i := 5) rfl)) G42 ba31
        have G44 := (G29.keep Kq31)
        have ne43 := own_neBA (hw _ (List.mem_of_getElem? (i := 5) rfl)) G44 ba31
        have G46 := (ea19.keep Kq31)
        have ne45 := own_neBA (hw _ (List.mem_of_getElem? (i := 5) rfl)) G46 ba31
        have ne47 := own_neBA (hw _ (List.mem_of_getElem? (i := 5) rfl)) ea31 ba31
        have hk31 : T31.heap.size ≤ T31.heap.size := Nat.le_refl _
        show own_End p e below P (T31.setTop (mkF m 77 #[.val (.int p0), .val (.int p1), .val (.int p2), .val (.int p3), .val (.int p4), .val (.long q5), .second, .val (.int v2), .val (.int v5), .val (.int v8), .val (.ref a10), .val (.ref a12), .val (.ref a19), .unset, .unset, .unset, .unset, .unset, .unset, .unset, .unset, .unset, .unset] [(.ref a31)]))
        refine own_st (fun _ => XS.astore X31.here hx rfl (hb hby at_77) rfl rfl (l' := #[.val (.int p0), .val (.int p1), .val (.int p2), .val (.int p3), .val (.int p4), .val (.long q5), .second, .val (.int v2), .val (.int v5), .val (.int v8), .val (.ref a10), .val (.ref a12), .val (.ref a19), .val (.ref a31), .unset, .unset, .unset, .unset, .unset, .unset, .unset, .unset, .unset]) rfl) ?_
        show own_End p e below P (T31.setTop (mkF m 79 #[.val (.int p0), .val (.int p1), .val (.int p2), .val (.int p3), .val (.int p4), .val (.long q5), .second, .val (.int v2), .val (.int v5), .val (.int v8), .val (.ref a10), .val (.ref a12), .val (.ref a19), .val (.ref a31), .unset, .unset, .unset, .unset, .unset, .unset, .unset, .unset, .unset] []))
        obtain ⟨T48, h48, X48, e48, E48, A48, D48, -, st48⟩ := newO X31 hx hZ hown (hw _ (List.mem_of_getElem? (i := 37) rfl)) (hw _ (List.mem_of_getElem? (i := 38) rfl)) (hw _ (List.mem_of_getElem? (i := 39) rfl)) rfl (g := (mkF m 79 #[.val (.int p0), .val (.int p1), .val (.int p2), .val (.int p3), .val (.int p4), .val (.long q5), .second, .val (.int v2), .val (.int v5), .val (.int v8), .val (.ref a10), .val (.ref a12), .val (.ref a19), .val (.ref a31), .unset, .unset, .unset, .unset, .unset, .unset, .unset, .unset, .unset] [])) rfl (hb hby at_79) (by decide) (by decide)
        obtain ⟨b48, g48⟩ : ∃ z, z = T31.heap.size := ⟨_, rfl⟩
        rw [← g48] at A48 D48 st48
        have ne49 : a10 ≠ b48 := Nat.ne_of_lt (Nat.lt_of_lt_of_le G42.lt (Nat.le_of_eq g48.symm))
        have ne50 : a12 ≠ b48 := Nat.ne_of_lt (Nat.lt_of_lt_of_le G44.lt (Nat.le_of_eq g48.symm))
        have ne51 : a19 ≠ b48 := Nat.ne_of_lt (Nat.lt_of_lt_of_le G46.lt (Nat.le_of_eq g48.symm))
        have ne52 : a31 ≠ b48 := Nat.ne_of_lt (Nat.lt_of_lt_of_le ea31.lt (Nat.le_of_eq g48.symm))
        have G54 := (G36.keep Kq31 nin0)
        have ne53 : v10 ≠ b48 := Nat.ne_of_lt (Nat.lt_of_lt_of_le G54.lt (Nat.le_of_eq g48.symm))
        have G56 := (G38.keep Kq31 nin0)
        have ne55 : v12 ≠ b48 := Nat.ne_of_lt (Nat.lt_of_lt_of_le G56.lt (Nat.le_of_eq g48.symm))
        have G58 := (ba19.keep Kq31 nin0)
        have ne57 : v19 ≠ b48 := Nat.ne_of_lt (Nat.lt_of_lt_of_le G58.lt (Nat.le_of_eq g48.symm))
        have ne59 : v31 ≠ b48 := Nat.ne_of_lt (Nat.lt_of_lt_of_le ba31.lt (Nat.le_of_eq g48.symm))
        have low_b48 : n0 ≤ b48 := Nat.le_trans (Nat.le_trans Z0 K31.1) (Nat.le_of_eq g48.symm)
        have sz_b48 : h0.size ≤ b48 := Nat.le_trans K31.1 (Nat.le_of_eq g48.symm)
        have K48 := Keep.ext K31 E48
        have F_b48_scheme : Fld Z h48 b48 "com/example/holdfast/holdfast/internal/Route" "scheme" "Ljava/lang/String;" .null := D48 (Or.inr (hw _ (List.mem_of_getElem? (i := 50) rfl))) (ty := (.object "java/lang/String")) (by decide)
        have F_b48_host : Fld Z h48 b48 "com/example/holdfast/holdfast/internal/Route" "host" "Ljava/lang/String;" .null := D48 (Or.inr (hw _ (List.mem_of_getElem? (i := 52) rfl))) (ty := (.object "java/lang/String")) (by decide)
        have F_b48_port : Fld Z h48 b48 "com/example/holdfast/holdfast/internal/Route" "port" "I" (.int (0 : Int32)) := D48 (Or.inr (hw _ (List.mem_of_getElem? (i := 54) rfl))) (ty := .int) (by decide)
        refine own_st (fun _ => st48 _) ?_
        show own_End p e below P (T48.setTop (mkF m 82 #[.val (.int p0), .val (.int p1), .val (.int p2), .val (.int p3), .val (.int p4), .val (.long q5), .second, .val (.int v2), .val (.int v5), .val (.int v8), .val (.ref a10), .val (.ref a12), .val (.ref a19), .val (.ref a31), .unset, .unset, .unset, .unset, .unset, .unset, .unset, .unset, .unset] [(.ref b48)]))
        refine own_st (fun _ => XS.dup X48.here hx rfl (hb hby at_82) rfl rfl) ?_
        show own_End p e below P (T48.setTop (mkF m 83 #[.val (.int p0), .val (.int p1), .val (.int p2), .val (.int p3), .val (.int p4), .val (.long q5), .second, .val (.int v2), .val (.int v5), .val (.int v8), .val (.ref a10), .val (.ref a12), .val (.ref a19), .val (.ref a31), .unset, .unset, .unset, .unset, .unset, .unset, .unset, .unset, .unset] [(.ref b48), (.ref b48)]))
        refine own_st (fun _ => XS.aload X48.here hx rfl (hb hby at_83) rfl rfl) ?_
        show own_End p e below P (T48.setTop (mkF m 85 #[.val (.int p0), .val (.int p1), .val (.int p2), .val (.int p3), .val (.int p4), .val (.long q5), .second, .val (.int v2), .val (.int v5), .val (.int v8), .val (.ref a10), .val (.ref a12), .val (.ref a19), .val (.ref a31), .unset, .unset, .unset, .unset, .unset, .unset, .unset, .unset, .unset] [(.ref a10), (.ref b48), (.ref b48)]))
        refine own_st (fun _ => XS.aload X48.here hx rfl (hb hby at_85) rfl rfl) ?_
        show own_End p e below P (T48.setTop (mkF m 87 #[.val (.int p0), .val (.int p1), .val (.int p2), .val (.int p3), .val (.int p4), .val (.long q5), .second, .val (.int v2), .val (.int v5), .val (.int v8), .val (.ref a10), .val (.ref a12), .val (.ref a19), .val (.ref a31), .unset, .unset, .unset, .unset, .unset, .unset, .unset, .unset, .unset] [(.ref a19), (.ref a10), (.ref b48), (.ref b48)]))
        refine own_st (fun _ => XS.iloadN X48.here hx rfl (hb hby at_87) rfl) ?_
        show own_End p e below P (T48.setTop (mkF m 88 #[.val (.int p0), .val (.int p1), .val (.int p2), .val (.int p3), .val (.int p4), .val (.long q5), .second, .val (.int v2), .val (.int v5), .val (.int v8), .val (.ref a10), .val (.ref a12), .val (.ref a19), .val (.ref a31), .unset, .unset, .unset, .unset, .unset, .unset, .unset, .unset, .unset] [(.int p2), (.ref a19), (.ref a10), (.ref b48), (.ref b48)]))
        refine own_callI X48 hx hZ (y := (⟨"com/example/holdfast/holdfast/internal/Route", "<init>", "(Ljava/lang/String;Ljava/lang/String;I)V"⟩ : MethodName)) rfl hown (hw _ (List.mem_of_getElem? (i := 40) rfl)) (hw _ (List.mem_of_getElem? (i := 41) rfl)) (hw _ (List.mem_of_getElem? (i := 39) rfl)) (hw _ (List.mem_of_getElem? (i := 42) rfl)) (by decide) (own_mri l Z a0 hw [] b48 a10 a19 p2  h48 n0 (Nat.le_trans Z0 K48.1) A48 F_b48_scheme F_b48_host F_b48_port low_b48) 1 (by decide) (by decide) e48 (by decide) (by decide) (g := (mkF m 88 #[.val (.int p0), .val (.int p1), .val (.int p2), .val (.int p3), .val (.int p4), .val (.long q5), .second, .val (.int v2), .val (.int v5), .val (.int v8), .val (.ref a10), .val (.ref a12), .val (.ref a19), .val (.ref a31), .unset, .unset, .unset, .unset, .unset, .unset, .unset, .unset, .unset] [(.int p2), (.ref a19), (.ref a10), (.ref b48), (.ref b48)])) rfl (by rw [hml']; rfl) (a := b48) (argsL := [(.ref a10), (.ref a19), (.int p2)]) (rest := [(.ref b48)]) rfl (lenOf own_pd_Ljava_lang_String_Ljava_lang_String_I_V_641 rfl) rfl (by show 2 * 0 + _ ≤ _; exact Nat.le_of_eq rfl) (hb hby at_88) (fun r60 T60 L60 X60 hQ60 => ?_)
        obtain ⟨rfl, Nq60, Kq60, f0_60, f1_60, f2_60, f3_60⟩ := hQ60
        have N60 := Fr.app N31 Nq60
        have K60 := Keep.trans K48 Kq60 (allS (Or.inr sz_b48) all0)
        show own_End p e below P (T60.setTop (mkF m 91 #[.val (.int p0), .val (.int p1), .val (.int p2), .val (.int p3), .val (.int p4), .val (.long q5), .second, .val (.int v2), .val (.int v5), .val (.int v8), .val (.ref a10), .val (.ref a12), .val (.ref a19), .val (.ref a31), .unset, .unset, .unset, .unset, .unset, .unset, .unset, .unset, .unset] [(.ref b48)]))
        refine own_st (fun _ => XS.astore X60.here hx rfl (hb hby at_91) rfl rfl (l' := #[.val (.int p0), .val (.int p1), .val (.int p2), .val (.int p3), .val (.int p4), .val (.long q5), .second, .val (.int v2), .val (.int v5), .val (.int v8), .val (.ref a10), .val (.ref a12), .val (.ref a19), .val (.ref a31), .val (.ref b48), .unset, .unset, .unset, .unset, .unset, .unset, .unset, .unset]) rfl) ?_
        show own_End p e below P (T60.setTop (mkF m 93 #[.val (.int p0), .val (.int p1), .val (.int p2), .val (.int p3), .val (.int p4), .val (.long q5), .second, .val (.int v2), .val (.int v5), .val (.int v8), .val (.ref a10), .val (.ref a12), .val (.ref a19), .val (.ref a31), .val (.ref b48), .unset, .unset, .unset, .unset, .unset, .unset, .unset, .unset] []))
        obtain ⟨T61, h61, X61, e61, E61, A61, D61, -, st61⟩ := newO X60 hx hZ hown (hw _ (List.mem_of_getElem? (i := 37) rfl)) (hw _ (List.mem_of_getElem? (i := 38) rfl)) (hw _ (List.mem_of_getElem? (i := 39) rfl)) rfl (g := (mkF m 93 #[.val (.int p0), .val (.int p1), .val (.int p2), .val (.int p3), .val (.int p4), .val (.long q5), .second, .val (.int v2), .val (.int v5), .val (.int v8), .val (.ref a10), .val (.ref a12), .val (.ref a19), .val (.ref a31), .val (.ref b48), .unset, .unset, .unset, .unset, .unset, .unset, .unset, .unset] [])) rfl (hb hby at_93) (by decide) (by decide)
        obtain ⟨b61, g61⟩ : ∃ z, z = T60.heap.size := ⟨_, rfl⟩
        rw [← g61] at A61 D61 st61
        have G63 := ((G42.ext E48).keep Kq60)
        have ne62 : a10 ≠ b61 := Nat.ne_of_lt (Nat.lt_of_lt_of_le G63.lt (Nat.le_of_eq g61.symm))
        have G65 := ((G44.ext E48).keep Kq60)
        have ne64 : a12 ≠ b61 := Nat.ne_of_lt (Nat.lt_of_lt_of_le G65.lt (Nat.le_of_eq g61.symm))
        have G67 := ((G46.ext E48).keep Kq60)
        have ne66 : a19 ≠ b61 := Nat.ne_of_lt (Nat.lt_of_lt_of_le G67.lt (Nat.le_of_eq g61.symm))
        have G69 := ((ea31.ext E48).keep Kq60)
        have ne68 : a31 ≠ b61 := Nat.ne_of_lt (Nat.lt_of_lt_of_le G69.lt (Nat.le_of_eq g61.symm))
        have ne70 : b48 ≠ b61 := Nat.ne_of_lt (Nat.lt_of_lt_of_le f0_60.lt (Nat.le_of_eq g61.symm))
        have G72 := ((G54.ext E48).keep Kq60 (ninS ne53 nin0))
        have ne71 : v10 ≠ b61 := Nat.ne_of_lt (Nat.lt_of_lt_of_le G72.lt (Nat.le_of_eq g61.symm))
        have G74 := ((G56.ext E48).keep Kq60 (ninS ne55 nin0))
        have ne73 : v12 ≠ b61 := Nat.ne_of_lt (Nat.lt_of_lt_of_le G74.lt (Nat.le_of_eq g61.symm))
        have G76 := ((G58.ext E48).keep Kq60 (ninS ne57 nin0))
        have ne75 : v19 ≠ b61 := Nat.ne_of_lt (Nat.lt_of_lt_of_le G76.lt (Nat.le_of_eq g61.symm))
        have G78 := ((ba31.ext E48).keep Kq60 (ninS ne59 nin0))
        have ne77 : v31 ≠ b61 := Nat.ne_of_lt (Nat.lt_of_lt_of_le G78.lt (Nat.le_of_eq g61.symm))
        have low_b61 : n0 ≤ b61 := Nat.le_trans (Nat.le_trans Z0 K60.1) (Nat.le_of_eq g61.symm)
        have sz_b61 : h0.size ≤ b61 := Nat.le_trans K60.1 (Nat.le_of_eq g61.symm)
        have K61 := Keep.ext K60 E61
        have F_b61_scheme : Fld Z h61 b61 "com/example/holdfast/holdfast/internal/Route" "scheme" "Ljava/lang/String;" .null := D61 (Or.inr (hw _ (List.mem_of_getElem? (i := 50) rfl))) (ty := (.object "java/lang/String")) (by decide)
        have F_b61_host : Fld Z h61 b61 "com/example/holdfast/holdfast/internal/Route" "host" "Ljava/lang/String;" .null := D61 (Or.inr (hw _ (List.mem_of_getElem? (i := 52) rfl))) (ty := (.object "java/lang/String")) (by decide)
        have F_b61_port : Fld Z h61 b61 "com/example/holdfast/holdfast/internal/Route" "port" "I" (.int (0 : Int32)) := D61 (Or.inr (hw _ (List.mem_of_getElem? (i := 54) rfl))) (ty := .int) (by decide)
        refine own_st (fun _ => st61 _) ?_
        show own_End p e below P (T61.setTop (mkF m 96 #[.val (.int p0), .val (.int p1), .val (.int p2), .val (.int p3), .val (.int p4), .val (.long q5), .second, .val (.int v2), .val (.int v5), .val (.int v8), .val (.ref a10), .val (.ref a12), .val (.ref a19), .val (.ref a31), .val (.ref b48), .unset, .unset, .unset, .unset, .unset, .unset, .unset, .unset] [(.ref b61)]))
        refine own_st (fun _ => XS.dup X61.here hx rfl (hb hby at_96) rfl rfl) ?_
        show own_End p e below P (T61.setTop (mkF m 97 #[.val (.int p0), .val (.int p1), .val (.int p2), .val (.int p3), .val (.int p4), .val (.long q5), .second, .val (.int v2), .val (.int v5), .val (.int v8), .val (.ref a10), .val (.ref a12), .val (.ref a19), .val (.ref a31), .val (.ref b48), .unset, .unset, .unset, .unset, .unset, .unset, .unset, .unset] [(.ref b61), (.ref b61)]))
        refine own_st (fun _ => XS.aload X61.here hx rfl (hb hby at_97) rfl rfl) ?_
        show own_End p e below P (T61.setTop (mkF m 99 #[.val (.int p0), .val (.int p1), .val (.int p2), .val (.int p3), .val (.int p4), .val (.long q5), .second, .val (.int v2), .val (.int v5), .val (.int v8), .val (.ref a10), .val (.ref a12), .val (.ref a19), .val (.ref a31), .val (.ref b48), .unset, .unset, .unset, .unset, .unset, .unset, .unset, .unset] [(.ref a12), (.ref b61), (.ref b61)]))
        refine own_st (fun _ => XS.aload X61.here hx rfl (hb hby at_99) rfl rfl) ?_
        show own_End p e below P (T61.setTop (mkF m 101 #[.val (.int p0), .val (.int p1), .val (.int p2), .val (.int p3), .val (.int p4), .val (.long q5), .second, .val (.int v2), .val (.int v5), .val (.int v8), .val (.ref a10), .val (.ref a12), .val (.ref a19), .val (.ref a31), .val (.ref b48), .unset, .unset, .unset, .unset, .unset, .unset, .unset, .unset] [(.ref a31), (.ref a12), (.ref b61), (.ref b61)]))
        refine own_st (fun _ => XS.iload X61.here hx rfl (hb hby at_101) rfl) ?_
        show own_End p e below P (T61.setTop (mkF m 103 #[.val (.int p0), .val (.int p1), .val (.int p2), .val (.int p3), .val (.int p4), .val (.long q5), .second, .val (.int v2), .val (.int v5), .val (.int v8), .val (.ref a10), .val (.ref a12), .val (.ref a19), .val (.ref a31), .val (.ref b48), .unset, .unset, .unset, .unset, .unset, .unset, .unset, .unset] [(.int v8), (.ref a31), (.ref a12), (.ref b61), (.ref b61)]))
        refine own_callI X61 hx hZ (y := (⟨"com/example/holdfast/holdfast/internal/Route", "<init>", "(Ljava/lang/String;Ljava/lang/String;I)V"⟩ : MethodName)) rfl hown (hw _ (List.mem_of_getElem? (i := 40) rfl)) (hw _ (List.mem_of_getElem? (i := 41) rfl)) (hw _ (List.mem_of_getElem? (i := 39) rfl)) (hw _ (List.mem_of_getElem? (i := 42) rfl)) (by decide) (own_mri l Z a0 hw [] b61 a12 a31 v8  h61 n0 (Nat.le_trans Z0 K61.1) A61 F_b61_scheme F_b61_host F_b61_port low_b61) 1 (by decide) (by decide) e61 (by decide) (by decide) (g := (mkF m 103 #[.val (.int p0), .val (.int p1), .val (.int p2), .val (.int p3), .val (.int p4), .val (.long q5), .second, .val (.int v2), .val (.int v5), .val (.int v8), .val (.ref a10), .val (.ref a12), .val (.ref a19), .val (.ref a31), .val (.ref b48), .unset, .unset, .unset, .unset, .unset, .unset, .unset, .unset] [(.int v8), (.ref a31), (.ref a12), (.ref b61), (.ref b61)])) rfl (by rw [hml']; rfl) (a := b61) (argsL := [(.ref a12), (.ref a31), (.int v8)]) (rest := [(.ref b61)]) rfl (lenOf own_pd_Ljava_lang_String_Ljava_lang_String_I_V_641 rfl) rfl (by show 2 * 0 + _ ≤ _; exact Nat.le_of_eq rfl) (hb hby at_103) (fun r79 T79 L79 X79 hQ79 => ?_)
        obtain ⟨rfl, Nq79, Kq79, f0_79, f1_79, f2_79, f3_79⟩ := hQ79
        have N79 := Fr.app N60 Nq79
        have K79 := Keep.trans K61 Kq79 (allS (Or.inr sz_b61) all0)
        show own_End p e below P (T79.setTop (mkF m 106 #[.val (.int p0), .val (.int p1), .val (.int p2), .val (.int p3), .val (.int p4), .val (.long q5), .second, .val (.int v2), .val (.int v5), .val (.int v8), .val (.ref a10), .val (.ref a12), .val (.ref a19), .val (.ref a31), .val (.ref b48), .unset, .unset, .unset, .unset, .unset, .unset, .unset, .unset] [(.ref b61)]))
        refine own_st (fun _ => XS.astore X79.here hx rfl (hb hby at_106) rfl rfl (l' := #[.val (.int p0), .val (.int p1), .val (.int p2), .val (.int p3), .val (.int p4), .val (.long q5), .second, .val (.int v2), .val (.int v5), .val (.int v8), .val (.ref a10), .val (.ref a12), .val (.ref a19), .val (.ref a31), .val (.ref b48), .val (.ref b61), .unset, .unset, .unset, .unset, .unset, .unset, .unset]) rfl) ?_
        show own_End p e below P (T79.setTop (mkF m 108 #[.val (.int p0), .val (.int p1), .val (.int p2), .val (.int p3), .val (.int p4), .val (.long q5), .second, .val (.int v2), .val (.int v5), .val (.int v8), .val (.ref a10), .val (.ref a12), .val (.ref a19), .val (.ref a31), .val (.ref b48), .val (.ref b61), .unset, .unset, .unset, .unset, .unset, .unset, .unset] []))
        refine own_st (fun _ => XS.iloadN X79.here hx rfl (hb hby at_108) rfl) ?_
        show own_End p e below P (T79.setTop (mkF m 109 #[.val (.int p0), .val (.int p1), .val (.int p2), .val (.int p3), .val (.int p4), .val (.long q5), .second, .val (.int v2), .val (.int v5), .val (.int v8), .val (.ref a10), .val (.ref a12), .val (.ref a19), .val (.ref a31), .val (.ref b48), .val (.ref b61), .unset, .unset, .unset, .unset, .unset, .unset, .unset] [(.int p0)]))
        refine own_st (fun _ => XS.iload X79.here hx rfl (hb hby at_109) rfl) ?_
        show own_End p e below P (T79.setTop (mkF m 111 #[.val (.int p0), .val (.int p1), .val (.int p2), .val (.int p3), .val (.int p4), .val (.long q5), .second, .val (.int v2), .val (.int v5), .val (.int v8), .val (.ref a10), .val (.ref a12), .val (.ref a19), .val (.ref a31), .val (.ref b48), .val (.ref b61), .unset, .unset, .unset, .unset, .unset, .unset, .unset] [(.int v2), (.int p0)]))
        refine own_callS X79 hx hZ (y := (⟨"com/example/holdfast/holdfast/internal/RouteEqualsPinLaw", "same", "(II)Z"⟩ : MethodName)) hown (hw _ (List.mem_of_getElem? (i := 55) rfl)) (hw _ (List.mem_of_getElem? (i := 56) rfl)) (hw _ (List.mem_of_getElem? (i := 2) rfl)) (hw _ (List.mem_of_getElem? (i := 57) rfl)) (by decide) (own_msame l Z a0 hw [] p0 v2  T79.heap n0 (Nat.le_trans Z0 K79.1) ) 0 (by decide) (by decide) rfl (by decide) (by decide) (g := (mkF m 111 #[.val (.int p0), .val (.int p1), .val (.int p2), .val (.int p3), .val (.int p4), .val (.long q5), .second, .val (.int v2), .val (.int v5), .val (.int v8), .val (.ref a10), .val (.ref a12), .val (.ref a19), .val (.ref a31), .val (.ref b48), .val (.ref b61), .unset, .unset, .unset, .unset, .unset, .unset, .unset] [(.int v2), (.int p0)])) rfl (by rw [hml']; rfl) (argsL := [(.int p0), (.int v2)]) (rest := []) rfl (lenOf own_pd_II_Z_317 rfl) rfl (by show 2 * 0 + _ ≤ _; exact Nat.le_of_eq rfl) (hb hby at_111) (fun r80 T80 L80 X80 hQ80 => ?_)
        obtain ⟨rfl, Nq80, eq80⟩ := hQ80
        have N80 := Fr.app N79 Nq80
        show own_End p e below P (T80.setTop (mkF m 114 #[.val (.int p0), .val (.int p1), .val (.int p2), .val (.int p3), .val (.int p4), .val (.long q5), .second, .val (.int v2), .val (.int v5), .val (.int v8), .val (.ref a10), .val (.ref a12), .val (.ref a19), .val (.ref a31), .val (.ref b48), .val (.ref b61), .unset, .unset, .unset, .unset, .unset, .unset, .unset] [(.int (own_fsame p0 v2))]))
        by_cases hc81 : (own_fsame p0 v2) = (0 : Int32)
        · refine own_st (fun _ => XS.ifYes X80.here hx rfl (pc0 := 114) (pc' := 136) rfl (hb hby at_114) rfl ((if0 _ _).trans (teq hc81).1) (by decide) (by decide)) ?_
          show own_End p e below P (T80.setTop (mkF m 136 #[.val (.int p0), .val (.int p1), .val (.int p2), .val (.int p3), .val (.int p4), .val (.long q5), .second, .val (.int v2), .val (.int v5), .val (.int v8), .val (.ref a10), .val (.ref a12), .val (.ref a19), .val (.ref a31), .val (.ref b48), .val (.ref b61), .unset, .unset, .unset, .unset, .unset, .unset, .unset] []))
          refine own_st (fun _ => XS.iconst X80.here hx rfl (hb hby at_136)) ?_
          show own_End p e below P (T80.setTop (mkF m 137 #[.val (.int p0), .val (.int p1), .val (.int p2), .val (.int p3), .val (.int p4), .val (.long q5), .second, .val (.int v2), .val (.int v5), .val (.int v8), .val (.ref a10), .val (.ref a12), .val (.ref a19), .val (.ref a31), .val (.ref b48), .val (.ref b61), .unset, .unset, .unset, .unset, .unset, .unset, .unset] [(.int (0 : Int32))]))
          refine own_st (fun _ => XS.istore X80.here hx rfl (hb hby at_137) rfl (l' := #[.val (.int p0), .val (.int p1), .val (.int p2), .val (.int p3), .val (.int p4), .val (.long q5), .second, .val (.int v2), .val (.int v5), .val (.int v8), .val (.ref a10), .val (.ref a12), .val (.ref a19), .val (.ref a31), .val (.ref b48), .val (.ref b61), .val (.int (0 : Int32)), .unset, .unset, .unset, .unset, .unset, .unset]) rfl) ?_
          show own_End p e below P (T80.setTop (mkF m 139 #[.val (.int p0), .val (.int p1), .val (.int p2), .val (.int p3), .val (.int p4), .val (.long q5), .second, .val (.int v2), .val (.int v5), .val (.int v8), .val (.ref a10), .val (.ref a12), .val (.ref a19), .val (.ref a31), .val (.ref b48), .val (.ref b61), .val (.int (0 : Int32)), .unset, .unset, .unset, .unset, .unset, .unset] []))
          refine own_st (fun _ => XS.aload X80.here hx rfl (hb hby at_139) rfl rfl) ?_
          show own_End p e below P (T80.setTop (mkF m 141 #[.val (.int p0), .val (.int p1), .val (.int p2), .val (.int p3), .val (.int p4), .val (.long q5), .second, .val (.int v2), .val (.int v5), .val (.int v8), .val (.ref a10), .val (.ref a12), .val (.ref a19), .val (.ref a31), .val (.ref b48), .val (.ref b61), .val (.int (0 : Int32)), .unset, .unset, .unset, .unset, .unset, .unset] [(.ref b48)]))
          refine own_st (fun _ => XS.aload X80.here hx rfl (hb hby at_141) rfl rfl) ?_
          show own_End p e below P (T80.setTop (mkF m 143 #[.val (.int p0), .val (.int p1), .val (.int p2), .val (.int p3), .val (.int p4), .val (.long q5), .second, .val (.int v2), .val (.int v5), .val (.int v8), .val (.ref a10), .val (.ref a12), .val (.ref a19), .val (.ref a31), .val (.ref b48), .val (.ref b61), .val (.int (0 : Int32)), .unset, .unset, .unset, .unset, .unset, .unset] [(.ref b61), (.ref b48)]))
          have G83 := ((f0_60.ext E61).keep Kq79)
          have G84 := ((G67.ext E61).keep Kq79)
          have G85 := ((G63.ext E61).keep Kq79)
          have G86 := ((G69.ext E61).keep Kq79)
          have G87 := ((G65.ext E61).keep Kq79)
          have G88 := ((f3_60.ext E61).keep Kq79 (ninS ne70 nin0))
          have G89 := ((f2_60.ext E61).keep Kq79 (ninS ne70 nin0))
          have G90 := ((f1_60.ext E61).keep Kq79 (ninS ne70 nin0))
          have G91 := (((((fv19.keep Kq31 nin0).ext E48).keep Kq60 (ninS ne51 nin0)).ext E61).keep Kq79 (ninS ne66 nin0))
          have G92 := (((((fc19.keep Kq31 nin0).ext E48).keep Kq60 (ninS ne51 nin0)).ext E61).keep Kq79 (ninS ne66 nin0))
          have G93 := (((((((fv10.keep Kq12 nin0).keep Kq19 nin0).keep Kq31 nin0).ext E48).keep Kq60 (ninS ne49 nin0)).ext E61).keep Kq79 (ninS ne62 nin0))
          have G94 := (((((((fc10.keep Kq12 nin0).keep Kq19 nin0).keep Kq31 nin0).ext E48).keep Kq60 (ninS ne49 nin0)).ext E61).keep Kq79 (ninS ne62 nin0))
          have G95 := ((((fv31.ext E48).keep Kq60 (ninS ne52 nin0)).ext E61).keep Kq79 (ninS ne68 nin0))
          have G96 := ((((fc31.ext E48).keep Kq60 (ninS ne52 nin0)).ext E61).keep Kq79 (ninS ne68 nin0))
          have G97 := ((((((fv12.keep Kq19 nin0).keep Kq31 nin0).ext E48).keep Kq60 (ninS ne50 nin0)).ext E61).keep Kq79 (ninS ne64 nin0))
          have G98 := ((((((fc12.keep Kq19 nin0).keep Kq31 nin0).ext E48).keep Kq60 (ninS ne50 nin0)).ext E61).keep Kq79 (ninS ne64 nin0))
          have G99 := (own_StaKeep ((own_StaKeep ((own_StaKeep G32 Kq31 all0).ext E48) Kq60 (allS (own_nst A48) all0)).ext E61) Kq79 (allS (own_nst A61) all0))
          have G100 := ((G76.ext E61).keep Kq79 (ninS ne75 nin0))
          have G101 := ((G72.ext E61).keep Kq79 (ninS ne71 nin0))
          have G102 := ((G78.ext E61).keep Kq79 (ninS ne77 nin0))
          have G103 := ((G74.ext E61).keep Kq79 (ninS ne73 nin0))
          refine own_callV X80 hx hZ (y := (⟨"com/example/holdfast/holdfast/internal/Route", "equals", "(Ljava/lang/Object;)Z"⟩ : MethodName)) (z := (⟨"com/example/holdfast/holdfast/internal/Route", "equals", "(Ljava/lang/Object;)Z"⟩ : MethodName)) hown (hw _ (List.mem_of_getElem? (i := 58) rfl)) (hw _ (List.mem_of_getElem? (i := 59) rfl)) (notFace_of_selects (args := #[]) (mvT hZ (hw _ (List.mem_of_getElem? (i := 61) rfl)))) (hw _ (List.mem_of_getElem? (i := 61) rfl)) (hw _ (List.mem_of_getElem? (i := 60) rfl)) (hw _ (List.mem_of_getElem? (i := 39) rfl)) (hw _ (List.mem_of_getElem? (i := 62) rfl)) (by decide) G83 (own_mreq l Z a0 hw [] b48 b61 (own_mkl p1) (own_mkl p0) (own_mkl v5) (own_mkl v2) p2 a19 a10 v8 a31 a12 v19 v10 v31 v12 s_String_COMPACT_STRINGS T79.heap n0 (Nat.le_trans Z0 K79.1) G83 f0_79 G84 G85 G86 G87 G88 G89 G90 f3_79 f2_79 f1_79 G91 G92 G93 G94 G95 G96 G97 G98 G99 G100 G101 G102 G103 ne35 ne14 hnz (own_mkl_len _) (own_mkl_len _) (own_mkl_len _) (own_mkl_len _)) 0 (by decide) (by decide) eq80 (by decide) (by decide) (g := (mkF m 143 #[.val (.int p0), .val (.int p1), .val (.int p2), .val (.int p3), .val (.int p4), .val (.long q5), .second, .val (.int v2), .val (.int v5), .val (.int v8), .val (.ref a10), .val (.ref a12), .val (.ref a19), .val (.ref a31), .val (.ref b48), .val (.ref b61), .val (.int (0 : Int32)), .unset, .unset, .unset, .unset, .unset, .unset] [(.ref b61), (.ref b48)])) rfl (by rw [hml']; rfl) (argsL := [(.ref b61)]) (rest := []) rfl (lenOf own_pd_Ljava_lang_Object__Z_838 rfl) rfl (by show 2 * 0 + _ ≤ _; exact Nat.le_of_eq rfl) (hb hby at_143) (fun r82 T82 L82 X82 hQ82 => ?_)
          obtain ⟨rfl, Nq82, eq82⟩ := hQ82
          have N82 := Fr.app N80 Nq82
          show own_End p e below P (T82.setTop (mkF m 146 #[.val (.int p0), .val (.int p1), .val (.int p2), .val (.int p3), .val (.int p4), .val (.long q5), .second, .val (.int v2), .val (.int v5), .val (.int v8), .val (.ref a10), .val (.ref a12), .val (.ref a19), .val (.ref a31), .val (.ref b48), .val (.ref b61), .val (.int (0 : Int32)), .unset, .unset, .unset, .unset, .unset, .unset] [(.int (own_freq (own_mkl p1) (own_mkl p0) (own_mkl v5) (own_mkl v2) p2 v8 s_String_COMPACT_STRINGS))]))
          refine own_st (fun _ => XS.istore X82.here hx rfl (hb hby at_146) rfl (l' := #[.val (.int p0), .val (.int p1), .val (.int p2), .val (.int p3), .val (.int p4), .val (.long q5), .second, .val (.int v2), .val (.int v5), .val (.int v8), .val (.ref a10), .val (.ref a12), .val (.ref a19), .val (.ref a31), .val (.ref b48), .val (.ref b61), .val (.int (0 : Int32)), .val (.int (own_freq (own_mkl p1) (own_mkl p0) (own_mkl v5) (own_mkl v2) p2 v8 s_String_COMPACT_STRINGS)), .unset, .unset, .unset, .unset, .unset]) rfl) ?_
          show own_End p e below P (T82.setTop (mkF m 148 #[.val (.int p0), .val (.int p1), .val (.int p2), .val (.int p3), .val (.int p4), .val (.long q5), .second, .val (.int v2), .val (.int v5), .val (.int v8), .val (.ref a10), .val (.ref a12), .val (.ref a19), .val (.ref a31), .val (.ref b48), .val (.ref b61), .val (.int (0 : Int32)), .val (.int (own_freq (own_mkl p1) (own_mkl p0) (own_mkl v5) (own_mkl v2) p2 v8 s_String_COMPACT_STRINGS)), .unset, .unset, .unset, .unset, .unset] []))
          refine own_st (fun _ => XS.aload X82.here hx rfl (hb hby at_148) rfl rfl) ?_
          show own_End p e below P (T82.setTop (mkF m 150 #[.val (.int p0), .val (.int p1), .val (.int p2), .val (.int p3), .val (.int p4), .val (.long q5), .second, .val (.int v2), .val (.int v5), .val (.int v8), .val (.ref a10), .val (.ref a12), .val (.ref a19), .val (.ref a31), .val (.ref b48), .val (.ref b61), .val (.int (0 : Int32)), .val (.int (own_freq (own_mkl p1) (own_mkl p0) (own_mkl v5) (own_mkl v2) p2 v8 s_String_COMPACT_STRINGS)), .unset, .unset, .unset, .unset, .unset] [(.ref b61)]))
          refine own_st (fun _ => XS.aload X82.here hx rfl (hb hby at_150) rfl rfl) ?_
          show own_End p e below P (T82.setTop (mkF m 152 #[.val (.int p0), .val (.int p1), .val (.int p2), .val (.int p3), .val (.int p4), .val (.long q5), .second, .val (.int v2), .val (.int v5), .val (.int v8), .val (.ref a10), .val (.ref a12), .val (.ref a19), .val (.ref a31), .val (.ref b48), .val (.ref b61), .val (.int (0 : Int32)), .val (.int (own_freq (own_mkl p1) (own_mkl p0) (own_mkl v5) (own_mkl v2) p2 v8 s_String_COMPACT_STRINGS)), .unset, .unset, .unset, .unset, .unset] [(.ref b48), (.ref b61)]))
          refine own_callV X82 hx hZ (y := (⟨"com/example/holdfast/holdfast/internal/Route", "equals", "(Ljava/lang/Object;)Z"⟩ : MethodName)) (z := (⟨"com/example/holdfast/holdfast/internal/Route", "equals", "(Ljava/lang/Object;)Z"⟩ : MethodName)) hown (hw _ (List.mem_of_getElem? (i := 58) rfl)) (hw _ (List.mem_of_getElem? (i := 59) rfl)) (notFace_of_selects (args := #[]) (mvT hZ (hw _ (List.mem_of_getElem? (i := 61) rfl)))) (hw _ (List.mem_of_getElem? (i := 61) rfl)) (hw _ (List.mem_of_getElem? (i := 60) rfl)) (hw _ (List.mem_of_getElem? (i := 39) rfl)) (hw _ (List.mem_of_getElem? (i := 62) rfl)) (by decide) f0_79 (own_mreq l Z a0 hw [] b61 b48 (own_mkl v5) (own_mkl v2) (own_mkl p1) (own_mkl p0) v8 a31 a12 p2 a19 a10 v31 v12 v19 v10 s_String_COMPACT_STRINGS T79.heap n0 (Nat.le_trans Z0 K79.1) f0_79 G83 G86 G87 G84 G85 f3_79 f2_79 f1_79 G88 G89 G90 G95 G96 G97 G98 G91 G92 G93 G94 G99 G102 G103 G100 G101 (Ne.symm ne35) (Ne.symm ne14) hnz (own_mkl_len _) (own_mkl_len _) (own_mkl_len _) (own_mkl_len _)) 0 (by decide) (by decide) eq82 (by decide) (by decide) (g := (mkF m 152 #[.val (.int p0), .val (.int p1), .val (.int p2), .val (.int p3), .val (.int p4), .val (.long q5), .second, .val (.int v2), .val (.int v5), .val (.int v8), .val (.ref a10), .val (.ref a12), .val (.ref a19), .val (.ref a31), .val (.ref b48), .val (.ref b61), .val (.int (0 : Int32)), .val (.int (own_freq (own_mkl p1) (own_mkl p0) (own_mkl v5) (own_mkl v2) p2 v8 s_String_COMPACT_STRINGS)), .unset, .unset, .unset, .unset, .unset] [(.ref b48), (.ref b61)])) rfl (by rw [hml']; rfl) (argsL := [(.ref b48)]) (rest := []) rfl (lenOf own_pd_Ljava_lang_Object__Z_838 rfl) rfl (by show 2 * 0 + _ ≤ _; exact Nat.le_of_eq rfl) (hb hby at_152) (fun r104 T104 L104 X104 hQ104 => ?_)
          obtain ⟨rfl, Nq104, eq104⟩ := hQ104
          have N104 := Fr.app N82 Nq104
          show own_End p e below P (T104.setTop (mkF m 155 #[.val (.int p0), .val (.int p1), .val (.int p2), .val (.int p3), .val (.int p4), .val (.long q5), .second, .val (.int v2), .val (.int v5), .val (.int v8), .val (.ref a10), .val (.ref a12), .val (.ref a19), .val (.ref a31), .val (.ref b48), .val (.ref b61), .val (.int (0 : Int32)), .val (.int (own_freq (own_mkl p1) (own_mkl p0) (own_mkl v5) (own_mkl v2) p2 v8 s_String_COMPACT_STRINGS)), .unset, .unset, .unset, .unset, .unset] [(.int (own_freq (own_mkl v5) (own_mkl v2) (own_mkl p1) (own_mkl p0) v8 p2 s_String_COMPACT_STRINGS))]))
          refine own_st (fun _ => XS.istore X104.here hx rfl (hb hby at_155) rfl (l' := #[.val (.int p0), .val (.int p1), .val (.int p2), .val (.int p3), .val (.int p4), .val (.long q5), .second, .val (.int v2), .val (.int v5), .val (.int v8), .val (.ref a10), .val (.ref a12), .val (.ref a19), .val (.ref a31), .val (.ref b48), .val (.ref b61), .val (.int (0 : Int32)), .val (.int (own_freq (own_mkl p1) (own_mkl p0) (own_mkl v5) (own_mkl v2) p2 v8 s_String_COMPACT_STRINGS)), .val (.int (own_freq (own_mkl v5) (own_mkl v2) (own_mkl p1) (own_mkl p0) v8 p2 s_String_COMPACT_STRINGS)), .unset, .unset, .unset, .unset]) rfl) ?_
          show own_End p e below P (T104.setTop (mkF m 157 #[.val (.int p0), .val (.int p1), .val (.int p2), .val (.int p3), .val (.int p4), .val (.long q5), .second, .val (.int v2), .val (.int v5), .val (.int v8), .val (.ref a10), .val (.ref a12), .val (.ref a19), .val (.ref a31), .val (.ref b48), .val (.ref b61), .val (.int (0 : Int32)), .val (.int (own_freq (own_mkl p1) (own_mkl p0) (own_mkl v5) (own_mkl v2) p2 v8 s_String_COMPACT_STRINGS)), .val (.int (own_freq (own_mkl v5) (own_mkl v2) (own_mkl p1) (own_mkl p0) v8 p2 s_String_COMPACT_STRINGS)), .unset, .unset, .unset, .unset] []))
          refine own_st (fun _ => XS.aload X104.here hx rfl (hb hby at_157) rfl rfl) ?_
          show own_End p e below P (T104.setTop (mkF m 159 #[.val (.int p0), .val (.int p1), .val (.int p2), .val (.int p3), .val (.int p4), .val (.long q5), .second, .val (.int v2), .val (.int v5), .val (.int v8), .val (.ref a10), .val (.ref a12), .val (.ref a19), .val (.ref a31), .val (.ref b48), .val (.ref b61), .val (.int (0 : Int32)), .val (.int (own_freq (own_mkl p1) (own_mkl p0) (own_mkl v5) (own_mkl v2) p2 v8 s_String_COMPACT_STRINGS)), .val (.int (own_freq (own_mkl v5) (own_mkl v2) (own_mkl p1) (own_mkl p0) v8 p2 s_String_COMPACT_STRINGS)), .unset, .unset, .unset, .unset] [(.ref b48)]))
          refine own_st (fun _ => XS.aload X104.here hx rfl (hb hby at_159) rfl rfl) ?_
          show own_End p e below P (T104.setTop (mkF m 161 #[.val (.int p0), .val (.int p1), .val (.int p2), .val (.int p3), .val (.int p4), .val (.long q5), .second, .val (.int v2), .val (.int v5), .val (.int v8), .val (.ref a10), .val (.ref a12), .val (.ref a19), .val (.ref a31), .val (.ref b48), .val (.ref b61), .val (.int (0 : Int32)), .val (.int (own_freq (own_mkl p1) (own_mkl p0) (own_mkl v5) (own_mkl v2) p2 v8 s_String_COMPACT_STRINGS)), .val (.int (own_freq (own_mkl v5) (own_mkl v2) (own_mkl p1) (own_mkl p0) v8 p2 s_String_COMPACT_STRINGS)), .unset, .unset, .unset, .unset] [(.ref b48), (.ref b48)]))
          refine own_callV X104 hx hZ (y := (⟨"com/example/holdfast/holdfast/internal/Route", "equals", "(Ljava/lang/Object;)Z"⟩ : MethodName)) (z := (⟨"com/example/holdfast/holdfast/internal/Route", "equals", "(Ljava/lang/Object;)Z"⟩ : MethodName)) hown (hw _ (List.mem_of_getElem? (i := 58) rfl)) (hw _ (List.mem_of_getElem? (i := 59) rfl)) (notFace_of_selects (args := #[]) (mvT hZ (hw _ (List.mem_of_getElem? (i := 61) rfl)))) (hw _ (List.mem_of_getElem? (i := 61) rfl)) (hw _ (List.mem_of_getElem? (i := 60) rfl)) (hw _ (List.mem_of_getElem? (i := 39) rfl)) (hw _ (List.mem_of_getElem? (i := 62) rfl)) (by decide) G83 (own_mres l Z a0 hw [] b48 p2 a19 a10 T79.heap n0 (Nat.le_trans Z0 K79.1) G83 G84 G85 G88 G89 G90) 0 (by decide) (by decide) eq104 (by decide) (by decide) (g := (mkF m 161 #[.val (.int p0), .val (.int p1), .val (.int p2), .val (.int p3), .val (.int p4), .val (.long q5), .second, .val (.int v2), .val (.int v5), .val (.int v8), .val (.ref a10), .val (.ref a12), .val (.ref a19), .val (.ref a31), .val (.ref b48), .val (.ref b61), .val (.int (0 : Int32)), .val (.int (own_freq (own_mkl p1) (own_mkl p0) (own_mkl v5) (own_mkl v2) p2 v8 s_String_COMPACT_STRINGS)), .val (.int (own_freq (own_mkl v5) (own_mkl v2) (own_mkl p1) (own_mkl p0) v8 p2 s_String_COMPACT_STRINGS)), .unset, .unset, .unset, .unset] [(.ref b48), (.ref b48)])) rfl (by rw [hml']; rfl) (argsL := [(.ref b48)]) (rest := []) rfl (lenOf own_pd_Ljava_lang_Object__Z_838 rfl) rfl (by show 2 * 0 + _ ≤ _; exact Nat.le_of_eq rfl) (hb hby at_161) (fun r105 T105 L105 X105 hQ105 => ?_)
          obtain ⟨rfl, Nq105, eq105⟩ := hQ105
          have N105 := Fr.app N104 Nq105
          show own_End p e below P (T105.setTop (mkF m 164 #[.val (.int p0), .val (.int p1), .val (.int p2), .val (.int p3), .val (.int p4), .val (.long q5), .second, .val (.int v2), .val (.int v5), .val (.int v8), .val (.ref a10), .val (.ref a12), .val (.ref a19), .val (.ref a31), .val (.ref b48), .val (.ref b61), .val (.int (0 : Int32)), .val (.int (own_freq (own_mkl p1) (own_mkl p0) (own_mkl v5) (own_mkl v2) p2 v8 s_String_COMPACT_STRINGS)), .val (.int (own_freq (own_mkl v5) (own_mkl v2) (own_mkl p1) (own_mkl p0) v8 p2 s_String_COMPACT_STRINGS)), .unset, .unset, .unset, .unset] [(.int (1 : Int32))]))
          refine own_st (fun _ => XS.istore X105.here hx rfl (hb hby at_164) rfl (l' := #[.val (.int p0), .val (.int p1), .val (.int p2), .val (.int p3), .val (.int p4), .val (.long q5), .second, .val (.int v2), .val (.int v5), .val (.int v8), .val (.ref a10), .val (.ref a12), .val (.ref a19), .val (.ref a31), .val (.ref b48), .val (.ref b61), .val (.int (0 : Int32)), .val (.int (own_freq (own_mkl p1) (own_mkl p0) (own_mkl v5) (own_mkl v2) p2 v8 s_String_COMPACT_STRINGS)), .val (.int (own_freq (own_mkl v5) (own_mkl v2) (own_mkl p1) (own_mkl p0) v8 p2 s_String_COMPACT_STRINGS)), .val (.int (1 : Int32)), .unset, .unset, .unset]) rfl) ?_
          show own_End p e below P (T105.setTop (mkF m 166 #[.val (.int p0), .val (.int p1), .val (.int p2), .val (.int p3), .val (.int p4), .val (.long q5), .second, .val (.int v2), .val (.int v5), .val (.int v8), .val (.ref a10), .val (.ref a12), .val (.ref a19), .val (.ref a31), .val (.ref b48), .val (.ref b61), .val (.int (0 : Int32)), .val (.int (own_freq (own_mkl p1) (own_mkl p0) (own_mkl v5) (own_mkl v2) p2 v8 s_String_COMPACT_STRINGS)), .val (.int (own_freq (own_mkl v5) (own_mkl v2) (own_mkl p1) (own_mkl p0) v8 p2 s_String_COMPACT_STRINGS)), .val (.int (1 : Int32)), .unset, .unset, .unset] []))
          refine own_st (fun _ => XS.aload X105.here hx rfl (hb hby at_166) rfl rfl) ?_
          show own_End p e below P (T105.setTop (mkF m 168 #[.val (.int p0), .val (.int p1), .val (.int p2), .val (.int p3), .val (.int p4), .val (.long q5), .second, .val (.int v2), .val (.int v5), .val (.int v8), .val (.ref a10), .val (.ref a12), .val (.ref a19), .val (.ref a31), .val (.ref b48), .val (.ref b61), .val (.int (0 : Int32)), .val (.int (own_freq (own_mkl p1) (own_mkl p0) (own_mkl v5) (own_mkl v2) p2 v8 s_String_COMPACT_STRINGS)), .val (.int (own_freq (own_mkl v5) (own_mkl v2) (own_mkl p1) (own_mkl p0) v8 p2 s_String_COMPACT_STRINGS)), .val (.int (1 : Int32)), .unset, .unset, .unset] [(.ref b48)]))
          refine own_st (fun _ => XS.aload X105.here hx rfl (hb hby at_168) rfl rfl) ?_
          show own_End p e below P (T105.setTop (mkF m 170 #[.val (.int p0), .val (.int p1), .val (.int p2), .val (.int p3), .val (.int p4), .val (.long q5), .second, .val (.int v2), .val (.int v5), .val (.int v8), .val (.ref a10), .val (.ref a12), .val (.ref a19), .val (.ref a31), .val (.ref b48), .val (.ref b61), .val (.int (0 : Int32)), .val (.int (own_freq (own_mkl p1) (own_mkl p0) (own_mkl v5) (own_mkl v2) p2 v8 s_String_COMPACT_STRINGS)), .val (.int (own_freq (own_mkl v5) (own_mkl v2) (own_mkl p1) (own_mkl p0) v8 p2 s_String_COMPACT_STRINGS)), .val (.int (1 : Int32)), .unset, .unset, .unset] [(.ref a19), (.ref b48)]))
          refine own_callV X105 hx hZ (y := (⟨"com/example/holdfast/holdfast/internal/Route", "equals", "(Ljava/lang/Object;)Z"⟩ : MethodName)) (z := (⟨"com/example/holdfast/holdfast/internal/Route", "equals", "(Ljava/lang/Object;)Z"⟩ : MethodName)) hown (hw _ (List.mem_of_getElem? (i := 58) rfl)) (hw _ (List.mem_of_getElem? (i := 59) rfl)) (notFace_of_selects (args := #[]) (mvT hZ (hw _ (List.mem_of_getElem? (i := 61) rfl)))) (hw _ (List.mem_of_getElem? (i := 61) rfl)) (hw _ (List.mem_of_getElem? (i := 60) rfl)) (hw _ (List.mem_of_getElem? (i := 39) rfl)) (hw _ (List.mem_of_getElem? (i := 62) rfl)) (by decide) G83 (own_mreo l Z a0 hw [] b48 a19  T79.heap n0 (Nat.le_trans Z0 K79.1) G84) 0 (by decide) (by decide) eq105 (by decide) (by decide) (g := (mkF m 170 #[.val (.int p0), .val (.int p1), .val (.int p2), .val (.int p3), .val (.int p4), .val (.long q5), .second, .val (.int v2), .val (.int v5), .val (.int v8), .val (.ref a10), .val (.ref a12), .val (.ref a19), .val (.ref a31), .val (.ref b48), .val (.ref b61), .val (.int (0 : Int32)), .val (.int (own_freq (own_mkl p1) (own_mkl p0) (own_mkl v5) (own_mkl v2) p2 v8 s_String_COMPACT_STRINGS)), .val (.int (own_freq (own_mkl v5) (own_mkl v2) (own_mkl p1) (own_mkl p0) v8 p2 s_String_COMPACT_STRINGS)), .val (.int (1 : Int32)), .unset, .unset, .unset] [(.ref a19), (.ref b48)])) rfl (by rw [hml']; rfl) (argsL := [(.ref a19)]) (rest := []) rfl (lenOf own_pd_Ljava_lang_Object__Z_838 rfl) rfl (by show 2 * 0 + _ ≤ _; exact Nat.le_of_eq rfl) (hb hby at_170) (fun r106 T106 L106 X106 hQ106 => ?_)
          obtain ⟨rfl, Nq106, eq106⟩ := hQ106
          have N106 := Fr.app N105 Nq106
          show own_End p e below P (T106.setTop (mkF m 173 #[.val (.int p0), .val (.int p1), .val (.int p2), .val (.int p3), .val (.int p4), .val (.long q5), .second, .val (.int v2), .val (.int v5), .val (.int v8), .val (.ref a10), .val (.ref a12), .val (.ref a19), .val (.ref a31), .val (.ref b48), .val (.ref b61), .val (.int (0 : Int32)), .val (.int (own_freq (own_mkl p1) (own_mkl p0) (own_mkl v5) (own_mkl v2) p2 v8 s_String_COMPACT_STRINGS)), .val (.int (own_freq (own_mkl v5) (own_mkl v2) (own_mkl p1) (own_mkl p0) v8 p2 s_String_COMPACT_STRINGS)), .val (.int (1 : Int32)), .unset, .unset, .unset] [(.int (0 : Int32))]))
          refine own_st (fun _ => XS.istore X106.here hx rfl (hb hby at_173) rfl (l' := #[.val (.int p0), .val (.int p1), .val (.int p2), .val (.int p3), .val (.int p4), .val (.long q5), .second, .val (.int v2), .val (.int v5), .val (.int v8), .val (.ref a10), .val (.ref a12), .val (.ref a19), .val (.ref a31), .val (.ref b48), .val (.ref b61), .val (.int (0 : Int32)), .val (.int (own_freq (own_mkl p1) (own_mkl p0) (own_mkl v5) (own_mkl v2) p2 v8 s_String_COMPACT_STRINGS)), .val (.int (own_freq (own_mkl v5) (own_mkl v2) (own_mkl p1) (own_mkl p0) v8 p2 s_String_COMPACT_STRINGS)), .val (.int (1 : Int32)), .val (.int (0 : Int32)), .unset, .unset]) rfl) ?_
          show own_End p e below P (T106.setTop (mkF m 175 #[.val (.int p0), .val (.int p1), .val (.int p2), .val (.int p3), .val (.int p4), .val (.long q5), .second, .val (.int v2), .val (.int v5), .val (.int v8), .val (.ref a10), .val (.ref a12), .val (.ref a19), .val (.ref a31), .val (.ref b48), .val (.ref b61), .val (.int (0 : Int32)), .val (.int (own_freq (own_mkl p1) (own_mkl p0) (own_mkl v5) (own_mkl v2) p2 v8 s_String_COMPACT_STRINGS)), .val (.int (own_freq (own_mkl v5) (own_mkl v2) (own_mkl p1) (own_mkl p0) v8 p2 s_String_COMPACT_STRINGS)), .val (.int (1 : Int32)), .val (.int (0 : Int32)), .unset, .unset] []))
          refine own_st (fun _ => XS.aload X106.here hx rfl (hb hby at_175) rfl rfl) ?_
          show own_End p e below P (T106.setTop (mkF m 177 #[.val (.int p0), .val (.int p1), .val (.int p2), .val (.int p3), .val (.int p4), .val (.long q5), .second, .val (.int v2), .val (.int v5), .val (.int v8), .val (.ref a10), .val (.ref a12), .val (.ref a19), .val (.ref a31), .val (.ref b48), .val (.ref b61), .val (.int (0 : Int32)), .val (.int (own_freq (own_mkl p1) (own_mkl p0) (own_mkl v5) (own_mkl v2) p2 v8 s_String_COMPACT_STRINGS)), .val (.int (own_freq (own_mkl v5) (own_mkl v2) (own_mkl p1) (own_mkl p0) v8 p2 s_String_COMPACT_STRINGS)), .val (.int (1 : Int32)), .val (.int (0 : Int32)), .unset, .unset] [(.ref b48)]))
          refine own_st (fun _ => XS.aconstNull X106.here hx rfl (hb hby at_177)) ?_
          show own_End p e below P (T106.setTop (mkF m 178 #[.val (.int p0), .val (.int p1), .val (.int p2), .val (.int p3), .val (.int p4), .val (.long q5), .second, .val (.int v2), .val (.int v5), .val (.int v8), .val (.ref a10), .val (.ref a12), .val (.ref a19), .val (.ref a31), .val (.ref b48), .val (.ref b61), .val (.int (0 : Int32)), .val (.int (own_freq (own_mkl p1) (own_mkl p0) (own_mkl v5) (own_mkl v2) p2 v8 s_String_COMPACT_STRINGS)), .val (.int (own_freq (own_mkl v5) (own_mkl v2) (own_mkl p1) (own_mkl p0) v8 p2 s_String_COMPACT_STRINGS)), .val (.int (1 : Int32)), .val (.int (0 : Int32)), .unset, .unset] [.null, (.ref b48)]))
          refine own_callV X106 hx hZ (y := (⟨"com/example/holdfast/holdfast/internal/Route", "equals", "(Ljava/lang/Object;)Z"⟩ : MethodName)) (z := (⟨"com/example/holdfast/holdfast/internal/Route", "equals", "(Ljava/lang/Object;)Z"⟩ : MethodName)) hown (hw _ (List.mem_of_getElem? (i := 58) rfl)) (hw _ (List.mem_of_getElem? (i := 59) rfl)) (notFace_of_selects (args := #[]) (mvT hZ (hw _ (List.mem_of_getElem? (i := 61) rfl)))) (hw _ (List.mem_of_getElem? (i := 61) rfl)) (hw _ (List.mem_of_getElem? (i := 60) rfl)) (hw _ (List.mem_of_getElem? (i := 39) rfl)) (hw _ (List.mem_of_getElem? (i := 62) rfl)) (by decide) G83 (own_mren l Z a0 hw [] b48  T79.heap n0 (Nat.le_trans Z0 K79.1) ) 0 (by decide) (by decide) eq106 (by decide) (by decide) (g := (mkF m 178 #[.val (.int p0), .val (.int p1), .val (.int p2), .val (.int p3), .val (.int p4), .val (.long q5), .second, .val (.int v2), .val (.int v5), .val (.int v8), .val (.ref a10), .val (.ref a12), .val (.ref a19), .val (.ref a31), .val (.ref b48), .val (.ref b61), .val (.int (0 : Int32)), .val (.int (own_freq (own_mkl p1) (own_mkl p0) (own_mkl v5) (own_mkl v2) p2 v8 s_String_COMPACT_STRINGS)), .val (.int (own_freq (own_mkl v5) (own_mkl v2) (own_mkl p1) (own_mkl p0) v8 p2 s_String_COMPACT_STRINGS)), .val (.int (1 : Int32)), .val (.int (0 : Int32)), .unset, .unset] [.null, (.ref b48)])) rfl (by rw [hml']; rfl) (argsL := [.null]) (rest := []) rfl (lenOf own_pd_Ljava_lang_Object__Z_838 rfl) rfl (by show 2 * 0 + _ ≤ _; exact Nat.le_of_eq rfl) (hb hby at_178) (fun r107 T107 L107 X107 hQ107 => ?_)
          obtain ⟨rfl, Nq107, eq107⟩ := hQ107
          have N107 := Fr.app N106 Nq107
          show own_End p e below P (T107.setTop (mkF m 181 #[.val (.int p0), .val (.int p1), .val (.int p2), .val (.int p3), .val (.int p4), .val (.long q5), .second, .val (.int v2), .val (.int v5), .val (.int v8), .val (.ref a10), .val (.ref a12), .val (.ref a19), .val (.ref a31), .val (.ref b48), .val (.ref b61), .val (.int (0 : Int32)), .val (.int (own_freq (own_mkl p1) (own_mkl p0) (own_mkl v5) (own_mkl v2) p2 v8 s_String_COMPACT_STRINGS)), .val (.int (own_freq (own_mkl v5) (own_mkl v2) (own_mkl p1) (own_mkl p0) v8 p2 s_String_COMPACT_STRINGS)), .val (.int (1 : Int32)), .val (.int (0 : Int32)), .unset, .unset] [(.int (0 : Int32))]))
          refine own_st (fun _ => XS.istore X107.here hx rfl (hb hby at_181) rfl (l' := #[.val (.int p0), .val (.int p1), .val (.int p2), .val (.int p3), .val (.int p4), .val (.long q5), .second, .val (.int v2), .val (.int v5), .val (.int v8), .val (.ref a10), .val (.ref a12), .val (.ref a19), .val (.ref a31), .val (.ref b48), .val (.ref b61), .val (.int (0 : Int32)), .val (.int (own_freq (own_mkl p1) (own_mkl p0) (own_mkl v5) (own_mkl v2) p2 v8 s_String_COMPACT_STRINGS)), .val (.int (own_freq (own_mkl v5) (own_mkl v2) (own_mkl p1) (own_mkl p0) v8 p2 s_String_COMPACT_STRINGS)), .val (.int (1 : Int32)), .val (.int (0 : Int32)), .val (.int (0 : Int32)), .unset]) rfl) ?_
          show own_End p e below P (T107.setTop (mkF m 183 #[.val (.int p0), .val (.int p1), .val (.int p2), .val (.int p3), .val (.int p4), .val (.long q5), .second, .val (.int v2), .val (.int v5), .val (.int v8), .val (.ref a10), .val (.ref a12), .val (.ref a19), .val (.ref a31), .val (.ref b48), .val (.ref b61), .val (.int (0 : Int32)), .val (.int (own_freq (own_mkl p1) (own_mkl p0) (own_mkl v5) (own_mkl v2) p2 v8 s_String_COMPACT_STRINGS)), .val (.int (own_freq (own_mkl v5) (own_mkl v2) (own_mkl p1) (own_mkl p0) v8 p2 s_String_COMPACT_STRINGS)), .val (.int (1 : Int32)), .val (.int (0 : Int32)), .val (.int (0 : Int32)), .unset] []))
          refine own_st (fun _ => XS.iload X107.here hx rfl (hb hby at_183) rfl) ?_
          show own_End p e below P (T107.setTop (mkF m 185 #[.val (.int p0), .val (.int p1), .val (.int p2), .val (.int p3), .val (.int p4), .val (.long q5), .second, .val (.int v2), .val (.int v5), .val (.int v8), .val (.ref a10), .val (.ref a12), .val (.ref a19), .val (.ref a31), .val (.ref b48), .val (.ref b61), .val (.int (0 : Int32)), .val (.int (own_freq (own_mkl p1) (own_mkl p0) (own_mkl v5) (own_mkl v2) p2 v8 s_String_COMPACT_STRINGS)), .val (.int (own_freq (own_mkl v5) (own_mkl v2) (own_mkl p1) (own_mkl p0) v8 p2 s_String_COMPACT_STRINGS)), .val (.int (1 : Int32)), .val (.int (0 : Int32)), .val (.int (0 : Int32)), .unset] [(.int (0 : Int32))]))
          refine own_st (fun _ => XS.ifYes X107.here hx rfl (pc0 := 185) (pc' := 201) rfl (hb hby at_185) rfl ((if0 _ _).trans (teq (by decide : (0 : Int32) = (0 : Int32))).1) (by decide) (by decide)) ?_
          show own_End p e below P (T107.setTop (mkF m 201 #[.val (.int p0), .val (.int p1), .val (.int p2), .val (.int p3), .val (.int p4), .val (.long q5), .second, .val (.int v2), .val (.int v5), .val (.int v8), .val (.ref a10), .val (.ref a12), .val (.ref a19), .val (.ref a31), .val (.ref b48), .val (.ref b61), .val (.int (0 : Int32)), .val (.int (own_freq (own_mkl p1) (own_mkl p0) (own_mkl v5) (own_mkl v2) p2 v8 s_String_COMPACT_STRINGS)), .val (.int (own_freq (own_mkl v5) (own_mkl v2) (own_mkl p1) (own_mkl p0) v8 p2 s_String_COMPACT_STRINGS)), .val (.int (1 : Int32)), .val (.int (0 : Int32)), .val (.int (0 : Int32)), .unset] []))
          refine own_st (fun _ => XS.iconst X107.here hx rfl (hb hby at_201)) ?_
          show own_End p e below P (T107.setTop (mkF m 202 #[.val (.int p0), .val (.int p1), .val (.int p2), .val (.int p3), .val (.int p4), .val (.long q5), .second, .val (.int v2), .val (.int v5), .val (.int v8), .val (.ref a10), .val (.ref a12), .val (.ref a19), .val (.ref a31), .val (.ref b48), .val (.ref b61), .val (.int (0 : Int32)), .val (.int (own_freq (own_mkl p1) (own_mkl p0) (own_mkl v5) (own_mkl v2) p2 v8 s_String_COMPACT_STRINGS)), .val (.int (own_freq (own_mkl v5) (own_mkl v2) (own_mkl p1) (own_mkl p0) v8 p2 s_String_COMPACT_STRINGS)), .val (.int (1 : Int32)), .val (.int (0 : Int32)), .val (.int (0 : Int32)), .unset] [(.int (1 : Int32))]))
          refine own_st (fun _ => XS.goto X107.here hx rfl (pc0 := 202) (pc' := 206) rfl (hb hby at_202) (by decide) (by decide)) ?_
          show own_End p e below P (T107.setTop (mkF m 206 #[.val (.int p0), .val (.int p1), .val (.int p2), .val (.int p3), .val (.int p4), .val (.long q5), .second, .val (.int v2), .val (.int v5), .val (.int v8), .val (.ref a10), .val (.ref a12), .val (.ref a19), .val (.ref a31), .val (.ref b48), .val (.ref b61), .val (.int (0 : Int32)), .val (.int (own_freq (own_mkl p1) (own_mkl p0) (own_mkl v5) (own_mkl v2) p2 v8 s_String_COMPACT_STRINGS)), .val (.int (own_freq (own_mkl v5) (own_mkl v2) (own_mkl p1) (own_mkl p0) v8 p2 s_String_COMPACT_STRINGS)), .val (.int (1 : Int32)), .val (.int (0 : Int32)), .val (.int (0 : Int32)), .unset] [(.int (1 : Int32))]))
          refine own_st (fun _ => XS.istore X107.here hx rfl (hb hby at_206) rfl (l' := #[.val (.int p0), .val (.int p1), .val (.int p2), .val (.int p3), .val (.int p4), .val (.long q5), .second, .val (.int v2), .val (.int v5), .val (.int v8), .val (.ref a10), .val (.ref a12), .val (.ref a19), .val (.ref a31), .val (.ref b48), .val (.ref b61), .val (.int (0 : Int32)), .val (.int (own_freq (own_mkl p1) (own_mkl p0) (own_mkl v5) (own_mkl v2) p2 v8 s_String_COMPACT_STRINGS)), .val (.int (own_freq (own_mkl v5) (own_mkl v2) (own_mkl p1) (own_mkl p0) v8 p2 s_String_COMPACT_STRINGS)), .val (.int (1 : Int32)), .val (.int (0 : Int32)), .val (.int (0 : Int32)), .val (.int (1 : Int32))]) rfl) ?_
          show own_End p e below P (T107.setTop (mkF m 208 #[.val (.int p0), .val (.int p1), .val (.int p2), .val (.int p3), .val (.int p4), .val (.long q5), .second, .val (.int v2), .val (.int v5), .val (.int v8), .val (.ref a10), .val (.ref a12), .val (.ref a19), .val (.ref a31), .val (.ref b48), .val (.ref b61), .val (.int (0 : Int32)), .val (.int (own_freq (own_mkl p1) (own_mkl p0) (own_mkl v5) (own_mkl v2) p2 v8 s_String_COMPACT_STRINGS)), .val (.int (own_freq (own_mkl v5) (own_mkl v2) (own_mkl p1) (own_mkl p0) v8 p2 s_String_COMPACT_STRINGS)), .val (.int (1 : Int32)), .val (.int (0 : Int32)), .val (.int (0 : Int32)), .val (.int (1 : Int32))] []))
          refine own_st (fun _ => XS.iload X107.here hx rfl (hb hby at_208) rfl) ?_
          show own_End p e below P (T107.setTop (mkF m 210 #[.val (.int p0), .val (.int p1), .val (.int p2), .val (.int p3), .val (.int p4), .val (.long q5), .second, .val (.int v2), .val (.int v5), .val (.int v8), .val (.ref a10), .val (.ref a12), .val (.ref a19), .val (.ref a31), .val (.ref b48), .val (.ref b61), .val (.int (0 : Int32)), .val (.int (own_freq (own_mkl p1) (own_mkl p0) (own_mkl v5) (own_mkl v2) p2 v8 s_String_COMPACT_STRINGS)), .val (.int (own_freq (own_mkl v5) (own_mkl v2) (own_mkl p1) (own_mkl p0) v8 p2 s_String_COMPACT_STRINGS)), .val (.int (1 : Int32)), .val (.int (0 : Int32)), .val (.int (0 : Int32)), .val (.int (1 : Int32))] [(.int (own_freq (own_mkl p1) (own_mkl p0) (own_mkl v5) (own_mkl v2) p2 v8 s_String_COMPACT_STRINGS))]))
          refine own_st (fun _ => XS.iload X107.here hx rfl (hb hby at_210) rfl) ?_
          show own_End p e below P (T107.setTop (mkF m 212 #[.val (.int p0), .val (.int p1), .val (.int p2), .val (.int p3), .val (.int p4), .val (.long q5), .second, .val (.int v2), .val (.int v5), .val (.int v8), .val (.ref a10), .val (.ref a12), .val (.ref a19), .val (.ref a31), .val (.ref b48), .val (.ref b61), .val (.int (0 : Int32)), .val (.int (own_freq (own_mkl p1) (own_mkl p0) (own_mkl v5) (own_mkl v2) p2 v8 s_String_COMPACT_STRINGS)), .val (.int (own_freq (own_mkl v5) (own_mkl v2) (own_mkl p1) (own_mkl p0) v8 p2 s_String_COMPACT_STRINGS)), .val (.int (1 : Int32)), .val (.int (0 : Int32)), .val (.int (0 : Int32)), .val (.int (1 : Int32))] [(.int (0 : Int32)), (.int (own_freq (own_mkl p1) (own_mkl p0) (own_mkl v5) (own_mkl v2) p2 v8 s_String_COMPACT_STRINGS))]))
          have hd108 : (own_freq (own_mkl p1) (own_mkl p0) (own_mkl v5) (own_mkl v2) p2 v8 s_String_COMPACT_STRINGS) = (0 : Int32) := by first | exact own_d1 (by assumption) | exact own_d1' (by assumption) | exact own_d2 (by assumption) | exact own_d2' (by assumption) | exact own_d3 (by assumption) | exact own_d3' (by assumption) | exact own_d4 (by assumption) (by assumption) (by assumption) | exact own_d4' (by assumption) (by assumption) (by assumption)
          refine own_st (fun _ => XS.icmpNo X107.here hx rfl (hb hby at_212) rfl (teq hd108).2) ?_
          show own_End p e below P (T107.setTop (mkF m 215 #[.val (.int p0), .val (.int p1), .val (.int p2), .val (.int p3), .val (.int p4), .val (.long q5), .second, .val (.int v2), .val (.int v5), .val (.int v8), .val (.ref a10), .val (.ref a12), .val (.ref a19), .val (.ref a31), .val (.ref b48), .val (.ref b61), .val (.int (0 : Int32)), .val (.int (own_freq (own_mkl p1) (own_mkl p0) (own_mkl v5) (own_mkl v2) p2 v8 s_String_COMPACT_STRINGS)), .val (.int (own_freq (own_mkl v5) (own_mkl v2) (own_mkl p1) (own_mkl p0) v8 p2 s_String_COMPACT_STRINGS)), .val (.int (1 : Int32)), .val (.int (0 : Int32)), .val (.int (0 : Int32)), .val (.int (1 : Int32))] []))
          refine own_st (fun _ => XS.iload X107.here hx rfl (hb hby at_215) rfl) ?_
          show own_End p e below P (T107.setTop (mkF m 217 #[.val (.int p0), .val (.int p1), .val (.int p2), .val (.int p3), .val (.int p4), .val (.long q5), .second, .val (.int v2), .val (.int v5), .val (.int v8), .val (.ref a10), .val (.ref a12), .val (.ref a19), .val (.ref a31), .val (.ref b48), .val (.ref b61), .val (.int (0 : Int32)), .val (.int (own_freq (own_mkl p1) (own_mkl p0) (own_mkl v5) (own_mkl v2) p2 v8 s_String_COMPACT_STRINGS)), .val (.int (own_freq (own_mkl v5) (own_mkl v2) (own_mkl p1) (own_mkl p0) v8 p2 s_String_COMPACT_STRINGS)), .val (.int (1 : Int32)), .val (.int (0 : Int32)), .val (.int (0 : Int32)), .val (.int (1 : Int32))] [(.int (own_freq (own_mkl v5) (own_mkl v2) (own_mkl p1) (own_mkl p0) v8 p2 s_String_COMPACT_STRINGS))]))
          refine own_st (fun _ => XS.iload X107.here hx rfl (hb hby at_217) rfl) ?_
          show own_End p e below P (T107.setTop (mkF m 219 #[.val (.int p0), .val (.int p1), .val (.int p2), .val (.int p3), .val (.int p4), .val (.long q5), .second, .val (.int v2), .val (.int v5), .val (.int v8), .val (.ref a10), .val (.ref a12), .val (.ref a19), .val (.ref a31), .val (.ref b48), .val (.ref b61), .val (.int (0 : Int32)), .val (.int (own_freq (own_mkl p1) (own_mkl p0) (own_mkl v5) (own_mkl v2) p2 v8 s_String_COMPACT_STRINGS)), .val (.int (own_freq (own_mkl v5) (own_mkl v2) (own_mkl p1) (own_mkl p0) v8 p2 s_String_COMPACT_STRINGS)), .val (.int (1 : Int32)), .val (.int (0 : Int32)), .val (.int (0 : Int32)), .val (.int (1 : Int32))] [(.int (0 : Int32)), (.int (own_freq (own_mkl v5) (own_mkl v2) (own_mkl p1) (own_mkl p0) v8 p2 s_String_COMPACT_STRINGS))]))
          have hd109 : (own_freq (own_mkl v5) (own_mkl v2) (own_mkl p1) (own_mkl p0) v8 p2 s_String_COMPACT_STRINGS) = (0 : Int32) := by first | exact own_d1 (by assumption) | exact own_d1' (by assumption) | exact own_d2 (by assumption) | exact own_d2' (by assumption) | exact own_d3 (by assumption) | exact own_d3' (by assumption) | exact own_d4 (by assumption) (by assumption) (by assumption) | exact own_d4' (by assumption) (by assumption) (by assumption)
          refine own_st (fun _ => XS.icmpNo X107.here hx rfl (hb hby at_219) rfl (teq hd109).2) ?_
          show own_End p e below P (T107.setTop (mkF m 222 #[.val (.int p0), .val (.int p1), .val (.int p2), .val (.int p3), .val (.int p4), .val (.long q5), .second, .val (.int v2), .val (.int v5), .val (.int v8), .val (.ref a10), .val (.ref a12), .val (.ref a19), .val (.ref a31), .val (.ref b48), .val (.ref b61), .val (.int (0 : Int32)), .val (.int (own_freq (own_mkl p1) (own_mkl p0) (own_mkl v5) (own_mkl v2) p2 v8 s_String_COMPACT_STRINGS)), .val (.int (own_freq (own_mkl v5) (own_mkl v2) (own_mkl p1) (own_mkl p0) v8 p2 s_String_COMPACT_STRINGS)), .val (.int (1 : Int32)), .val (.int (0 : Int32)), .val (.int (0 : Int32)), .val (.int (1 : Int32))] []))
          refine own_st (fun _ => XS.iload X107.here hx rfl (hb hby at_222) rfl) ?_
          show own_End p e below P (T107.setTop (mkF m 224 #[.val (.int p0), .val (.int p1), .val (.int p2), .val (.int p3), .val (.int p4), .val (.long q5), .second, .val (.int v2), .val (.int v5), .val (.int v8), .val (.ref a10), .val (.ref a12), .val (.ref a19), .val (.ref a31), .val (.ref b48), .val (.ref b61), .val (.int (0 : Int32)), .val (.int (own_freq (own_mkl p1) (own_mkl p0) (own_mkl v5) (own_mkl v2) p2 v8 s_String_COMPACT_STRINGS)), .val (.int (own_freq (own_mkl v5) (own_mkl v2) (own_mkl p1) (own_mkl p0) v8 p2 s_String_COMPACT_STRINGS)), .val (.int (1 : Int32)), .val (.int (0 : Int32)), .val (.int (0 : Int32)), .val (.int (1 : Int32))] [(.int (1 : Int32))]))
          refine own_st (fun _ => XS.ifNo X107.here hx rfl (hb hby at_224) rfl ((if0 _ _).trans (feq (by decide : ¬ ((1 : Int32) = (0 : Int32)))).1)) ?_
          show own_End p e below P (T107.setTop (mkF m 227 #[.val (.int p0), .val (.int p1), .val (.int p2), .val (.int p3), .val (.int p4), .val (.long q5), .second, .val (.int v2), .val (.int v5), .val (.int v8), .val (.ref a10), .val (.ref a12), .val (.ref a19), .val (.ref a31), .val (.ref b48), .val (.ref b61), .val (.int (0 : Int32)), .val (.int (own_freq (own_mkl p1) (own_mkl p0) (own_mkl v5) (own_mkl v2) p2 v8 s_String_COMPACT_STRINGS)), .val (.int (own_freq (own_mkl v5) (own_mkl v2) (own_mkl p1) (own_mkl p0) v8 p2 s_String_COMPACT_STRINGS)), .val (.int (1 : Int32)), .val (.int (0 : Int32)), .val (.int (0 : Int32)), .val (.int (1 : Int32))] []))
          refine own_st (fun _ => XS.iload X107.here hx rfl (hb hby at_227) rfl) ?_
          show own_End p e below P (T107.setTop (mkF m 229 #[.val (.int p0), .val (.int p1), .val (.int p2), .val (.int p3), .val (.int p4), .val (.long q5), .second, .val (.int v2), .val (.int v5), .val (.int v8), .val (.ref a10), .val (.ref a12), .val (.ref a19), .val (.ref a31), .val (.ref b48), .val (.ref b61), .val (.int (0 : Int32)), .val (.int (own_freq (own_mkl p1) (own_mkl p0) (own_mkl v5) (own_mkl v2) p2 v8 s_String_COMPACT_STRINGS)), .val (.int (own_freq (own_mkl v5) (own_mkl v2) (own_mkl p1) (own_mkl p0) v8 p2 s_String_COMPACT_STRINGS)), .val (.int (1 : Int32)), .val (.int (0 : Int32)), .val (.int (0 : Int32)), .val (.int (1 : Int32))] [(.int (0 : Int32))]))
          refine own_st (fun _ => XS.ifNo X107.here hx rfl (hb hby at_229) rfl ((if0 _ _).trans (teq (by decide : (0 : Int32) = (0 : Int32))).2)) ?_
          show own_End p e below P (T107.setTop (mkF m 232 #[.val (.int p0), .val (.int p1), .val (.int p2), .val (.int p3), .val (.int p4), .val (.long q5), .second, .val (.int v2), .val (.int v5), .val (.int v8), .val (.ref a10), .val (.ref a12), .val (.ref a19), .val (.ref a31), .val (.ref b48), .val (.ref b61), .val (.int (0 : Int32)), .val (.int (own_freq (own_mkl p1) (own_mkl p0) (own_mkl v5) (own_mkl v2) p2 v8 s_String_COMPACT_STRINGS)), .val (.int (own_freq (own_mkl v5) (own_mkl v2) (own_mkl p1) (own_mkl p0) v8 p2 s_String_COMPACT_STRINGS)), .val (.int (1 : Int32)), .val (.int (0 : Int32)), .val (.int (0 : Int32)), .val (.int (1 : Int32))] []))
          refine own_st (fun _ => XS.iload X107.here hx rfl (hb hby at_232) rfl) ?_
          show own_End p e below P (T107.setTop (mkF m 234 #[.val (.int p0), .val (.int p1), .val (.int p2), .val (.int p3), .val (.int p4), .val (.long q5), .second, .val (.int v2), .val (.int v5), .val (.int v8), .val (.ref a10), .val (.ref a12), .val (.ref a19), .val (.ref a31), .val (.ref b48), .val (.ref b61), .val (.int (0 : Int32)), .val (.int (own_freq (own_mkl p1) (own_mkl p0) (own_mkl v5) (own_mkl v2) p2 v8 s_String_COMPACT_STRINGS)), .val (.int (own_freq (own_mkl v5) (own_mkl v2) (own_mkl p1) (own_mkl p0) v8 p2 s_String_COMPACT_STRINGS)), .val (.int (1 : Int32)), .val (.int (0 : Int32)), .val (.int (0 : Int32)), .val (.int (1 : Int32))] [(.int (0 : Int32))]))
          refine own_st (fun _ => XS.ifNo X107.here hx rfl (hb hby at_234) rfl ((if0 _ _).trans (teq (by decide : (0 : Int32) = (0 : Int32))).2)) ?_
          show own_End p e below P (T107.setTop (mkF m 237 #[.val (.int p0), .val (.int p1), .val (.int p2), .val (.int p3), .val (.int p4), .val (.long q5), .second, .val (.int v2), .val (.int v5), .val (.int v8), .val (.ref a10), .val (.ref a12), .val (.ref a19), .val (.ref a31), .val (.ref b48), .val (.ref b61), .val (.int (0 : Int32)), .val (.int (own_freq (own_mkl p1) (own_mkl p0) (own_mkl v5) (own_mkl v2) p2 v8 s_String_COMPACT_STRINGS)), .val (.int (own_freq (own_mkl v5) (own_mkl v2) (own_mkl p1) (own_mkl p0) v8 p2 s_String_COMPACT_STRINGS)), .val (.int (1 : Int32)), .val (.int (0 : Int32)), .val (.int (0 : Int32)), .val (.int (1 : Int32))] []))
          refine own_st (fun _ => XS.iload X107.here hx rfl (hb hby at_237) rfl) ?_
          show own_End p e below P (T107.setTop (mkF m 239 #[.val (.int p0), .val (.int p1), .val (.int p2), .val (.int p3), .val (.int p4), .val (.long q5), .second, .val (.int v2), .val (.int v5), .val (.int v8), .val (.ref a10), .val (.ref a12), .val (.ref a19), .val (.ref a31), .val (.ref b48), .val (.ref b61), .val (.int (0 : Int32)), .val (.int (own_freq (own_mkl p1) (own_mkl p0) (own_mkl v5) (own_mkl v2) p2 v8 s_String_COMPACT_STRINGS)), .val (.int (own_freq (own_mkl v5) (own_mkl v2) (own_mkl p1) (own_mkl p0) v8 p2 s_String_COMPACT_STRINGS)), .val (.int (1 : Int32)), .val (.int (0 : Int32)), .val (.int (0 : Int32)), .val (.int (1 : Int32))] [(.int (1 : Int32))]))
          refine own_st (fun _ => XS.ifNo X107.here hx rfl (hb hby at_239) rfl ((if0 _ _).trans (feq (by decide : ¬ ((1 : Int32) = (0 : Int32)))).1)) ?_
          show own_End p e below P (T107.setTop (mkF m 242 #[.val (.int p0), .val (.int p1), .val (.int p2), .val (.int p3), .val (.int p4), .val (.long q5), .second, .val (.int v2), .val (.int v5), .val (.int v8), .val (.ref a10), .val (.ref a12), .val (.ref a19), .val (.ref a31), .val (.ref b48), .val (.ref b61), .val (.int (0 : Int32)), .val (.int (own_freq (own_mkl p1) (own_mkl p0) (own_mkl v5) (own_mkl v2) p2 v8 s_String_COMPACT_STRINGS)), .val (.int (own_freq (own_mkl v5) (own_mkl v2) (own_mkl p1) (own_mkl p0) v8 p2 s_String_COMPACT_STRINGS)), .val (.int (1 : Int32)), .val (.int (0 : Int32)), .val (.int (0 : Int32)), .val (.int (1 : Int32))] []))
          refine own_st (fun _ => XS.iconst X107.here hx rfl (hb hby at_242)) ?_
          show own_End p e below P (T107.setTop (mkF m 243 #[.val (.int p0), .val (.int p1), .val (.int p2), .val (.int p3), .val (.int p4), .val (.long q5), .second, .val (.int v2), .val (.int v5), .val (.int v8), .val (.ref a10), .val (.ref a12), .val (.ref a19), .val (.ref a31), .val (.ref b48), .val (.ref b61), .val (.int (0 : Int32)), .val (.int (own_freq (own_mkl p1) (own_mkl p0) (own_mkl v5) (own_mkl v2) p2 v8 s_String_COMPACT_STRINGS)), .val (.int (own_freq (own_mkl v5) (own_mkl v2) (own_mkl p1) (own_mkl p0) v8 p2 s_String_COMPACT_STRINGS)), .val (.int (1 : Int32)), .val (.int (0 : Int32)), .val (.int (0 : Int32)), .val (.int (1 : Int32))] [(.int (1 : Int32))]))
          refine own_st (fun _ => XS.goto X107.here hx rfl (pc0 := 243) (pc' := 247) rfl (hb hby at_243) (by decide) (by decide)) ?_
          show own_End p e below P (T107.setTop (mkF m 247 #[.val (.int p0), .val (.int p1), .val (.int p2), .val (.int p3), .val (.int p4), .val (.long q5), .second, .val (.int v2), .val (.int v5), .val (.int v8), .val (.ref a10), .val (.ref a12), .val (.ref a19), .val (.ref a31), .val (.ref b48), .val (.ref b61), .val (.int (0 : Int32)), .val (.int (own_freq (own_mkl p1) (own_mkl p0) (own_mkl v5) (own_mkl v2) p2 v8 s_String_COMPACT_STRINGS)), .val (.int (own_freq (own_mkl v5) (own_mkl v2) (own_mkl p1) (own_mkl p0) v8 p2 s_String_COMPACT_STRINGS)), .val (.int (1 : Int32)), .val (.int (0 : Int32)), .val (.int (0 : Int32)), .val (.int (1 : Int32))] [(.int (1 : Int32))]))
          have G110 := (Nat.le_trans (Nat.le_trans (Nat.le_trans (Nat.le_trans hk31 E48.1) Kq60.1) E61.1) Kq79.1)
          exact own_retNW X107 hS G110 eq107 hx hlk hP (t := .boolean) (by simp) hrt (hb hby at_247) (by decide) (by decide) ⟨rfl, N107⟩
        · refine own_st (fun _ => XS.ifNo X80.here hx rfl (hb hby at_114) rfl ((if0 _ _).trans (feq hc81).1)) ?_
          show own_End p e below P (T80.setTop (mkF m 117 #[.val (.int p0), .val (.int p1), .val (.int p2), .val (.int p3), .val (.int p4), .val (.long q5), .second, .val (.int v2), .val (.int v5), .val (.int v8), .val (.ref a10), .val (.ref a12), .val (.ref a19), .val (.ref a31), .val (.ref b48), .val (.ref b61), .unset, .unset, .unset, .unset, .unset, .unset, .unset] []))
          refine own_st (fun _ => XS.iloadN X80.here hx rfl (hb hby at_117) rfl) ?_
          show own_End p e below P (T80.setTop (mkF m 118 #[.val (.int p0), .val (.int p1), .val (.int p2), .val (.int p3), .val (.int p4), .val (.long q5), .second, .val (.int v2), .val (.int v5), .val (.int v8), .val (.ref a10), .val (.ref a12), .val (.ref a19), .val (.ref a31), .val (.ref b48), .val (.ref b61), .unset, .unset, .unset, .unset, .unset, .unset, .unset] [(.int p1)]))
          refine own_st (fun _ => XS.iload X80.here hx rfl (hb hby at_118) rfl) ?_
          show own_End p e below P (T80.setTop (mkF m 120 #[.val (.int p0), .val (.int p1), .val (.int p2), .val (.int p3), .val (.int p4), .val (.long q5), .second, .val (.int v2), .val (.int v5), .val (.int v8), .val (.ref a10), .val (.ref a12), .val (.ref a19), .val (.ref a31), .val (.ref b48), .val (.ref b61), .unset, .unset, .unset, .unset, .unset, .unset, .unset] [(.int v5), (.int p1)]))
          refine own_callS X80 hx hZ (y := (⟨"com/example/holdfast/holdfast/internal/RouteEqualsPinLaw", "same", "(II)Z"⟩ : MethodName)) hown (hw _ (List.mem_of_getElem? (i := 55) rfl)) (hw _ (List.mem_of_getElem? (i := 56) rfl)) (hw _ (List.mem_of_getElem? (i := 2) rfl)) (hw _ (List.mem_of_getElem? (i := 57) rfl)) (by decide) (own_msame l Z a0 hw [] p1 v5  T79.heap n0 (Nat.le_trans Z0 K79.1) ) 0 (by decide) (by decide) eq80 (by decide) (by decide) (g := (mkF m 120 #[.val (.int p0), .val (.int p1), .val (.int p2), .val (.int p3), .val (.int p4), .val (.long q5), .second, .val (.int v2), .val (.int v5), .val (.int v8), .val (.ref a10), .val (.ref a12), .val (.ref a19), .val (.ref a31), .val (.ref b48), .val (.ref b61), .unset, .unset, .unset, .unset, .unset, .unset, .unset] [(.int v5), (.int p1)])) rfl (by rw [hml']; rfl) (argsL := [(.int p1), (.int v5)]) (rest := []) rfl (lenOf own_pd_II_Z_317 rfl) rfl (by show 2 * 0 + _ ≤ _; exact Nat.le_of_eq rfl) (hb hby at_120) (fun r111 T111 L111 X111 hQ111 => ?_)
          obtain ⟨rfl, Nq111, eq111⟩ := hQ111
          have N111 := Fr.app N80 Nq111
          show own_End p e below P (T111.setTop (mkF m 123 #[.val (.int p0), .val (.int p1), .val (.int p2), .val (.int p3), .val (.int p4), .val (.long q5), .second, .val (.int v2), .val (.int v5), .val (.int v8), .val (.ref a10), .val (.ref a12), .val (.ref a19), .val (.ref a31), .val (.ref b48), .val (.ref b61), .unset, .unset, .unset, .unset, .unset, .unset, .unset] [(.int (own_fsame p1 v5))]))
          by_cases hc112 : (own_fsame p1 v5) = (0 : Int32)
          · refine own_st (fun _ => XS.ifYes X111.here hx rfl (pc0 := 123) (pc' := 136) rfl (hb hby at_123) rfl ((if0 _ _).trans (teq hc112).1) (by decide) (by decide)) ?_
            show own_End p e below P (T111.setTop (mkF m 136 #[.val (.int p0), .val (.int p1), .val (.int p2), .val (.int p3), .val (.int p4), .val (.long q5), .second, .val (.int v2), .val (.int v5), .val (.int v8), .val (.ref a10), .val (.ref a12), .val (.ref a19), .val (.ref a31), .val (.ref b48), .val (.ref b61), .unset, .unset, .unset, .unset, .unset, .unset, .unset] []))
            refine own_st (fun _ => XS.iconst X111.here hx rfl (hb hby at_136)) ?_
            show own_End p e below P (T111.setTop (mkF m 137 #[.val (.int p0), .val (.int p1), .val (.int p2), .val (.int p3), .val (.int p4), .val (.long q5), .second, .val (.int v2), .val (.int v5), .val (.int v8), .val (.ref a10), .val (.ref a12), .val (.ref a19), .val (.ref a31), .val (.ref b48), .val (.ref b61), .unset, .unset, .unset, .unset, .unset, .unset, .unset] [(.int (0 : Int32))]))
            refine own_st (fun _ => XS.istore X111.here hx rfl (hb hby at_137) rfl (l' := #[.val (.int p0), .val (.int p1), .val (.int p2), .val (.int p3), .val (.int p4), .val (.long q5), .second, .val (.int v2), .val (.int v5), .val (.int v8), .val (.ref a10), .val (.ref a12), .val (.ref a19), .val (.ref a31), .val (.ref b48), .val (.ref b61), .val (.int (0 : Int32)), .unset, .unset, .unset, .unset, .unset, .unset]) rfl) ?_
            show own_End p e below P (T111.setTop (mkF m 139 #[.val (.int p0), .val (.int p1), .val (.int p2), .val (.int p3), .val (.int p4), .val (.long q5), .second, .val (.int v2), .val (.int v5), .val (.int v8), .val (.ref a10), .val (.ref a12), .val (.ref a19), .val (.ref a31), .val (.ref b48), .val (.ref b61), .val (.int (0 : Int32)), .unset, .unset, .unset, .unset, .unset, .unset] []))
            refine own_st (fun _ => XS.aload X111.here hx rfl (hb hby at_139) rfl rfl) ?_
            show own_End p e below P (T111.setTop (mkF m 141 #[.val (.int p0), .val (.int p1), .val (.int p2), .val (.int p3), .val (.int p4), .val (.long q5), .second, .val (.int v2), .val (.int v5), .val (.int v8), .val (.ref a10), .val (.ref a12), .val (.ref a19), .val (.ref a31), .val (.ref b48), .val (.ref b61), .val (.int (0 : Int32)), .unset, .unset, .unset, .unset, .unset, .unset] [(.ref b48)]))
            refine own_st (fun _ => XS.aload X111.here hx rfl (hb hby at_141) rfl rfl) ?_
            show own_End p e below P (T111.setTop (mkF m 143 #[.val (.int p0), .val (.int p1), .val (.int p2), .val (.int p3), .val (.int p4), .val (.long q5), .second, .val (.int v2), .val (.int v5), .val (.int v8), .val (.ref a10), .val (.ref a12), .val (.ref a19), .val (.ref a31), .val (.ref b48), .val (.ref b61), .val (.int (0 : Int32)), .unset, .unset, .unset, .unset, .unset, .unset] [(.ref b61), (.ref b48)]))
            have G114 := ((f0_60.ext E61).keep Kq79)
            have G115 := ((G67.ext E61).keep Kq79)
            have G116 := ((G63.ext E61).keep Kq79)
            have G117 := ((G69.ext E61).keep Kq79)
            have G118 := ((G65.ext E61).keep Kq79)
            have G119 := ((f3_60.ext E61).keep Kq79 (ninS ne70 nin0))
            have G120 := ((f2_60.ext E61).keep Kq79 (ninS ne70 nin0))
            have G121 := ((f1_60.ext E61).keep Kq79 (ninS ne70 nin0))
            have G122 := (((((fv19.keep Kq31 nin0).ext E48).keep Kq60 (ninS ne51 nin0)).ext E61).keep Kq79 (ninS ne66 nin0))
            have G123 := (((((fc19.keep Kq31 nin0).ext E48).keep Kq60 (ninS ne51 nin0)).ext E61).keep Kq79 (ninS ne66 nin0))
            have G124 := (((((((fv10.keep Kq12 nin0).keep Kq19 nin0).keep Kq31 nin0).ext E48).keep Kq60 (ninS ne49 nin0)).ext E61).keep Kq79 (ninS ne62 nin0))
            have G125 := (((((((fc10.keep Kq12 nin0).keep Kq19 nin0).keep Kq31 nin0).ext E48).keep Kq60 (ninS ne49 nin0)).ext E61).keep Kq79 (ninS ne62 nin0))
            have G126 := ((((fv31.ext E48).keep Kq60 (ninS ne52 nin0)).ext E61).keep Kq79 (ninS ne68 nin0))
            have G127 := ((((fc31.ext E48).keep Kq60 (ninS ne52 nin0)).ext E61).keep Kq79 (ninS ne68 nin0))
            have G128 := ((((((fv12.keep Kq19 nin0).keep Kq31 nin0).ext E48).keep Kq60 (ninS ne50 nin0)).ext E61).keep Kq79 (ninS ne64 nin0))
            have G129 := ((((((fc12.keep Kq19 nin0).keep Kq31 nin0).ext E48).keep Kq60 (ninS ne50 nin0)).ext E61).keep Kq79 (ninS ne64 nin0))
            have G130 := (own_StaKeep ((own_StaKeep ((own_StaKeep G32 Kq31 all0).ext E48) Kq60 (allS (own_nst A48) all0)).ext E61) Kq79 (allS (own_nst A61) all0))
            have G131 := ((G76.ext E61).keep Kq79 (ninS ne75 nin0))
            have G132 := ((G72.ext E61).keep Kq79 (ninS ne71 nin0))
            have G133 := ((G78.ext E61).keep Kq79 (ninS ne77 nin0))
            have G134 := ((G74.ext E61).keep Kq79 (ninS ne73 nin0))
            refine own_callV X111 hx hZ (y := (⟨"com/example/holdfast/holdfast/internal/Route", "equals", "(Ljava/lang/Object;)Z"⟩ : MethodName)) (z := (⟨"com/example/holdfast/holdfast/internal/Route", "equals", "(Ljava/lang/Object;)Z"⟩ : MethodName)) hown (hw _ (List.mem_of_getElem? (i := 58) rfl)) (hw _ (List.mem_of_getElem? (i := 59) rfl)) (notFace_of_selects (args := #[]) (mvT hZ (hw _ (List.mem_of_getElem? (i := 61) rfl)))) (hw _ (List.mem_of_getElem? (i := 61) rfl)) (hw _ (List.mem_of_getElem? (i := 60) rfl)) (hw _ (List.mem_of_getElem? (i := 39) rfl)) (hw _ (List.mem_of_getElem? (i := 62) rfl)) (by decide) G114 (own_mreq l Z a0 hw [] b48 b61 (own_mkl p1) (own_mkl p0) (own_mkl v5) (own_mkl v2) p2 a19 a10 v8 a31 a12 v19 v10 v31 v12 s_String_COMPACT_STRINGS T79.heap n0 (Nat.le_trans Z0 K79.1) G114 f0_79 G115 G116 G117 G118 G119 G120 G121 f3_79 f2_79 f1_79 G122 G123 G124 G125 G126 G127 G128 G129 G130 G131 G132 G133 G134 ne35 ne14 hnz (own_mkl_len _) (own_mkl_len _) (own_mkl_len _) (own_mkl_len _)) 0 (by decide) (by decide) eq111 (by decide) (by decide) (g := (mkF m 143 #[.val (.int p0), .val (.int p1), .val (.int p2), .val (.int p3), .val (.int p4), .val (.long q5), .second, .val (.int v2), .val (.int v5), .val (.int v8), .val (.ref a10), .val (.ref a12), .val (.ref a19), .val (.ref a31), .val (.ref b48), .val (.ref b61), .val (.int (0 : Int32)), .unset, .unset, .unset, .unset, .unset, .unset] [(.ref b61), (.ref b48)])) rfl (by rw [hml']; rfl) (argsL := [(.ref b61)]) (rest := []) rfl (lenOf own_pd_Ljava_lang_Object__Z_838 rfl) rfl (by show 2 * 0 + _ ≤ _; exact Nat.le_of_eq rfl) (hb hby at_143) (fun r113 T113 L113 X113 hQ113 => ?_)
            obtain ⟨rfl, Nq113, eq113⟩ := hQ113
            have N113 := Fr.app N111 Nq113
            show own_End p e below P (T113.setTop (mkF m 146 #[.val (.int p0), .val (.int p1), .val (.int p2), .val (.int p3), .val (.int p4), .val (.long q5), .second, .val (.int v2), .val (.int v5), .val (.int v8), .val (.ref a10), .val (.ref a12), .val (.ref a19), .val (.ref a31), .val (.ref b48), .val (.ref b61), .val (.int (0 : Int32)), .unset, .unset, .unset, .unset, .unset, .unset] [(.int (own_freq (own_mkl p1) (own_mkl p0) (own_mkl v5) (own_mkl v2) p2 v8 s_String_COMPACT_STRINGS))]))
            refine own_st (fun _ => XS.istore X113.here hx rfl (hb hby at_146) rfl (l' := #[.val (.int p0), .val (.int p1), .val (.int p2), .val (.int p3), .val (.int p4), .val (.long q5), .second, .val (.int v2), .val (.int v5), .val (.int v8), .val (.ref a10), .val (.ref a12), .val (.ref a19), .val (.ref a31), .val (.ref b48), .val (.ref b61), .val (.int (0 : Int32)), .val (.int (own_freq (own_mkl p1) (own_mkl p0) (own_mkl v5) (own_mkl v2) p2 v8 s_String_COMPACT_STRINGS)), .unset, .unset, .unset, .unset, .unset]) rfl) ?_
            show own_End p e below P (T113.setTop (mkF m 148 #[.val (.int p0), .val (.int p1), .val (.int p2), .val (.int p3), .val (.int p4), .val (.long q5), .second, .val (.int v2), .val (.int v5), .val (.int v8), .val (.ref a10), .val (.ref a12), .val (.ref a19), .val (.ref a31), .val (.ref b48), .val (.ref b61), .val (.int (0 : Int32)), .val (.int (own_freq (own_mkl p1) (own_mkl p0) (own_mkl v5) (own_mkl v2) p2 v8 s_String_COMPACT_STRINGS)), .unset, .unset, .unset, .unset, .unset] []))
            refine own_st (fun _ => XS.aload X113.here hx rfl (hb hby at_148) rfl rfl) ?_
            show own_End p e below P (T113.setTop (mkF m 150 #[.val (.int p0), .val (.int p1), .val (.int p2), .val (.int p3), .val (.int p4), .val (.long q5), .second, .val (.int v2), .val (.int v5), .val (.int v8), .val (.ref a10), .val (.ref a12), .val (.ref a19), .val (.ref a31), .val (.ref b48), .val (.ref b61), .val (.int (0 : Int32)), .val (.int (own_freq (own_mkl p1) (own_mkl p0) (own_mkl v5) (own_mkl v2) p2 v8 s_String_COMPACT_STRINGS)), .unset, .unset, .unset, .unset, .unset] [(.ref b61)]))
            refine own_st (fun _ => XS.aload X113.here hx rfl (hb hby at_150) rfl rfl) ?_
            show own_End p e below P (T113.setTop (mkF m 152 #[.val (.int p0), .val (.int p1), .val (.int p2), .val (.int p3), .val (.int p4), .val (.long q5), .second, .val (.int v2), .val (.int v5), .val (.int v8), .val (.ref a10), .val (.ref a12), .val (.ref a19), .val (.ref a31), .val (.ref b48), .val (.ref b61), .val (.int (0 : Int32)), .val (.int (own_freq (own_mkl p1) (own_mkl p0) (own_mkl v5) (own_mkl v2) p2 v8 s_String_COMPACT_STRINGS)), .unset, .unset, .unset, .unset, .unset] [(.ref b48), (.ref b61)]))
            refine own_callV X113 hx hZ (y := (⟨"com/example/holdfast/holdfast/internal/Route", "equals", "(Ljava/lang/Object;)Z"⟩ : MethodName)) (z := (⟨"com/example/holdfast/holdfast/internal/Route", "equals", "(Ljava/lang/Object;)Z"⟩ : MethodName)) hown (hw _ (List.mem_of_getElem? (i := 58) rfl)) (hw _ (List.mem_of_getElem? (i := 59) rfl)) (notFace_of_selects (args := #[]) (mvT hZ (hw _ (List.mem_of_getElem? (i := 61) rfl)))) (hw _ (List.mem_of_getElem? (i := 61) rfl)) (hw _ (List.mem_of_getElem? (i := 60) rfl)) (hw _ (List.mem_of_getElem? (i := 39) rfl)) (hw _ (List.mem_of_getElem? (i := 62) rfl)) (by decide) f0_79 (own_mreq l Z a0 hw [] b61 b48 (own_mkl v5) (own_mkl v2) (own_mkl p1) (own_mkl p0) v8 a31 a12 p2 a19 a10 v31 v12 v19 v10 s_String_COMPACT_STRINGS T79.heap n0 (Nat.le_trans Z0 K79.1) f0_79 G114 G117 G118 G115 G116 f3_79 f2_79 f1_79 G119 G120 G121 G126 G127 G128 G129 G122 G123 G124 G125 G130 G133 G134 G131 G132 (Ne.symm ne35) (Ne.symm ne14) hnz (own_mkl_len _) (own_mkl_len _) (own_mkl_len _) (own_mkl_len _)) 0 (by decide) (by decide) eq113 (by decide) (by decide) (g := (mkF m 152 #[.val (.int p0), .val (.int p1), .val (.int p2), .val (.int p3), .val (.int p4), .val (.long q5), .second, .val (.int v2), .val (.int v5), .val (.int v8), .val (.ref a10), .val (.ref a12), .val (.ref a19), .val (.ref a31), .val (.ref b48), .val (.ref b61), .val (.int (0 : Int32)), .val (.int (own_freq (own_mkl p1) (own_mkl p0) (own_mkl v5) (own_mkl v2) p2 v8 s_String_COMPACT_STRINGS)), .unset, .unset, .unset, .unset, .unset] [(.ref b48), (.ref b61)])) rfl (by rw [hml']; rfl) (argsL := [(.ref b48)]) (rest := []) rfl (lenOf own_pd_Ljava_lang_Object__Z_838 rfl) rfl (by show 2 * 0 + _ ≤ _; exact Nat.le_of_eq rfl) (hb hby at_152) (fun r135 T135 L135 X135 hQ135 => ?_)
            obtain ⟨rfl, Nq135, eq135⟩ := hQ135
            have N135 := Fr.app N113 Nq135
            show own_End p e below P (T135.setTop (mkF m 155 #[.val (.int p0), .val (.int p1), .val (.int p2), .val (.int p3), .val (.int p4), .val (.long q5), .second, .val (.int v2), .val (.int v5), .val (.int v8), .val (.ref a10), .val (.ref a12), .val (.ref a19), .val (.ref a31), .val (.ref b48), .val (.ref b61), .val (.int (0 : Int32)), .val (.int (own_freq (own_mkl p1) (own_mkl p0) (own_mkl v5) (own_mkl v2) p2 v8 s_String_COMPACT_STRINGS)), .unset, .unset, .unset, .unset, .unset] [(.int (own_freq (own_mkl v5) (own_mkl v2) (own_mkl p1) (own_mkl p0) v8 p2 s_String_COMPACT_STRINGS))]))
            refine own_st (fun _ => XS.istore X135.here hx rfl (hb hby at_155) rfl (l' := #[.val (.int p0), .val (.int p1), .val (.int p2), .val (.int p3), .val (.int p4), .val (.long q5), .second, .val (.int v2), .val (.int v5), .val (.int v8), .val (.ref a10), .val (.ref a12), .val (.ref a19), .val (.ref a31), .val (.ref b48), .val (.ref b61), .val (.int (0 : Int32)), .val (.int (own_freq (own_mkl p1) (own_mkl p0) (own_mkl v5) (own_mkl v2) p2 v8 s_String_COMPACT_STRINGS)), .val (.int (own_freq (own_mkl v5) (own_mkl v2) (own_mkl p1) (own_mkl p0) v8 p2 s_String_COMPACT_STRINGS)), .unset, .unset, .unset, .unset]) rfl) ?_
            show own_End p e below P (T135.setTop (mkF m 157 #[.val (.int p0), .val (.int p1), .val (.int p2), .val (.int p3), .val (.int p4), .val (.long q5), .second, .val (.int v2), .val (.int v5), .val (.int v8), .val (.ref a10), .val (.ref a12), .val (.ref a19), .val (.ref a31), .val (.ref b48), .val (.ref b61), .val (.int (0 : Int32)), .val (.int (own_freq (own_mkl p1) (own_mkl p0) (own_mkl v5) (own_mkl v2) p2 v8 s_String_COMPACT_STRINGS)), .val (.int (own_freq (own_mkl v5) (own_mkl v2) (own_mkl p1) (own_mkl p0) v8 p2 s_String_COMPACT_STRINGS)), .unset, .unset, .unset, .unset] []))
            refine own_st (fun _ => XS.aload X135.here hx rfl (hb hby at_157) rfl rfl) ?_
            show own_End p e below P (T135.setTop (mkF m 159 #[.val (.int p0), .val (.int p1), .val (.int p2), .val (.int p3), .val (.int p4), .val (.long q5), .second, .val (.int v2), .val (.int v5), .val (.int v8), .val (.ref a10), .val (.ref a12), .val (.ref a19), .val (.ref a31), .val (.ref b48), .val (.ref b61), .val (.int (0 : Int32)), .val (.int (own_freq (own_mkl p1) (own_mkl p0) (own_mkl v5) (own_mkl v2) p2 v8 s_String_COMPACT_STRINGS)), .val (.int (own_freq (own_mkl v5) (own_mkl v2) (own_mkl p1) (own_mkl p0) v8 p2 s_String_COMPACT_STRINGS)), .unset, .unset, .unset, .unset] [(.ref b48)]))
            refine own_st (fun _ => XS.aload X135.here hx rfl (hb hby at_159) rfl rfl) ?_
            show own_End p e below P (T135.setTop (mkF m 161 #[.val (.int p0), .val (.int p1), .val (.int p2), .val (.int p3), .val (.int p4), .val (.long q5), .second, .val (.int v2), .val (.int v5), .val (.int v8), .val (.ref a10), .val (.ref a12), .val (.ref a19), .val (.ref a31), .val (.ref b48), .val (.ref b61), .val (.int (0 : Int32)), .val (.int (own_freq (own_mkl p1) (own_mkl p0) (own_mkl v5) (own_mkl v2) p2 v8 s_String_COMPACT_STRINGS)), .val (.int (own_freq (own_mkl v5) (own_mkl v2) (own_mkl p1) (own_mkl p0) v8 p2 s_String_COMPACT_STRINGS)), .unset, .unset, .unset, .unset] [(.ref b48), (.ref b48)]))
            refine own_callV X135 hx hZ (y := (⟨"com/example/holdfast/holdfast/internal/Route", "equals", "(Ljava/lang/Object;)Z"⟩ : MethodName)) (z := (⟨"com/example/holdfast/holdfast/internal/Route", "equals", "(Ljava/lang/Object;)Z"⟩ : MethodName)) hown (hw _ (List.mem_of_getElem? (i := 58) rfl)) (hw _ (List.mem_of_getElem? (i := 59) rfl)) (notFace_of_selects (args := #[]) (mvT hZ (hw _ (List.mem_of_getElem? (i := 61) rfl)))) (hw _ (List.mem_of_getElem? (i := 61) rfl)) (hw _ (List.mem_of_getElem? (i := 60) rfl)) (hw _ (List.mem_of_getElem? (i := 39) rfl)) (hw _ (List.mem_of_getElem? (i := 62) rfl)) (by decide) G114 (own_mres l Z a0 hw [] b48 p2 a19 a10 T79.heap n0 (Nat.le_trans Z0 K79.1) G114 G115 G116 G119 G120 G121) 0 (by decide) (by decide) eq135 (by decide) (by decide) (g := (mkF m 161 #[.val (.int p0), .val (.int p1), .val (.int p2), .val (.int p3), .val (.int p4), .val (.long q5), .second, .val (.int v2), .val (.int v5), .val (.int v8), .val (.ref a10), .val (.ref a12), .val (.ref a19), .val (.ref a31), .val (.ref b48), .val (.ref b61), .val (.int (0 : Int32)), .val (.int (own_freq (own_mkl p1) (own_mkl p0) (own_mkl v5) (own_mkl v2) p2 v8 s_String_COMPACT_STRINGS)), .val (.int (own_freq (own_mkl v5) (own_mkl v2) (own_mkl p1) (own_mkl p0) v8 p2 s_String_COMPACT_STRINGS)), .unset, .unset, .unset, .unset] [(.ref b48), (.ref b48)])) rfl (by rw [hml']; rfl) (argsL := [(.ref b48)]) (rest := []) rfl (lenOf own_pd_Ljava_lang_Object__Z_838 rfl) rfl (by show 2 * 0 + _ ≤ _; exact Nat.le_of_eq rfl) (hb hby at_161) (fun r136 T136 L136 X136 hQ136 => ?_)
            obtain ⟨rfl, Nq136, eq136⟩ := hQ136
            have N136 := Fr.app N135 Nq136
            show own_End p e below P (T136.setTop (mkF m 164 #[.val (.int p0), .val (.int p1), .val (.int p2), .val (.int p3), .val (.int p4), .val (.long q5), .second, .val (.int v2), .val (.int v5), .val (.int v8), .val (.ref a10), .val (.ref a12), .val (.ref a19), .val (.ref a31), .val (.ref b48), .val (.ref b61), .val (.int (0 : Int32)), .val (.int (own_freq (own_mkl p1) (own_mkl p0) (own_mkl v5) (own_mkl v2) p2 v8 s_String_COMPACT_STRINGS)), .val (.int (own_freq (own_mkl v5) (own_mkl v2) (own_mkl p1) (own_mkl p0) v8 p2 s_String_COMPACT_STRINGS)), .unset, .unset, .unset, .unset] [(.int (1 : Int32))]))
            refine own_st (fun _ => XS.istore X136.here hx rfl (hb hby at_164) rfl (l' := #[.val (.int p0), .val (.int p1), .val (.int p2), .val (.int p3), .val (.int p4), .val (.long q5), .second, .val (.int v2), .val (.int v5), .val (.int v8), .val (.ref a10), .val (.ref a12), .val (.ref a19), .val (.ref a31), .val (.ref b48), .val (.ref b61), .val (.int (0 : Int32)), .val (.int (own_freq (own_mkl p1) (own_mkl p0) (own_mkl v5) (own_mkl v2) p2 v8 s_String_COMPACT_STRINGS)), .val (.int (own_freq (own_mkl v5) (own_mkl v2) (own_mkl p1) (own_mkl p0) v8 p2 s_String_COMPACT_STRINGS)), .val (.int (1 : Int32)), .unset, .unset, .unset]) rfl) ?_
            show own_End p e below P (T136.setTop (mkF m 166 #[.val (.int p0), .val (.int p1), .val (.int p2), .val (.int p3), .val (.int p4), .val (.long q5), .second, .val (.int v2), .val (.int v5), .val (.int v8), .val (.ref a10), .val (.ref a12), .val (.ref a19), .val (.ref a31), .val (.ref b48), .val (.ref b61), .val (.int (0 : Int32)), .val (.int (own_freq (own_mkl p1) (own_mkl p0) (own_mkl v5) (own_mkl v2) p2 v8 s_String_COMPACT_STRINGS)), .val (.int (own_freq (own_mkl v5) (own_mkl v2) (own_mkl p1) (own_mkl p0) v8 p2 s_String_COMPACT_STRINGS)), .val (.int (1 : Int32)), .unset, .unset, .unset] []))
            refine own_st (fun _ => XS.aload X136.here hx rfl (hb hby at_166) rfl rfl) ?_
            show own_End p e below P (T136.setTop (mkF m 168 #[.val (.int p0), .val (.int p1), .val (.int p2), .val (.int p3), .val (.int p4), .val (.long q5), .second, .val (.int v2), .val (.int v5), .val (.int v8), .val (.ref a10), .val (.ref a12), .val (.ref a19), .val (.ref a31), .val (.ref b48), .val (.ref b61), .val (.int (0 : Int32)), .val (.int (own_freq (own_mkl p1) (own_mkl p0) (own_mkl v5) (own_mkl v2) p2 v8 s_String_COMPACT_STRINGS)), .val (.int (own_freq (own_mkl v5) (own_mkl v2) (own_mkl p1) (own_mkl p0) v8 p2 s_String_COMPACT_STRINGS)), .val (.int (1 : Int32)), .unset, .unset, .unset] [(.ref b48)]))
            refine own_st (fun _ => XS.aload X136.here hx rfl (hb hby at_168) rfl rfl) ?_
            show own_End p e below P (T136.setTop (mkF m 170 #[.val (.int p0), .val (.int p1), .val (.int p2), .val (.int p3), .val (.int p4), .val (.long q5), .second, .val (.int v2), .val (.int v5), .val (.int v8), .val (.ref a10), .val (.ref a12), .val (.ref a19), .val (.ref a31), .val (.ref b48), .val (.ref b61), .val (.int (0 : Int32)), .val (.int (own_freq (own_mkl p1) (own_mkl p0) (own_mkl v5) (own_mkl v2) p2 v8 s_String_COMPACT_STRINGS)), .val (.int (own_freq (own_mkl v5) (own_mkl v2) (own_mkl p1) (own_mkl p0) v8 p2 s_String_COMPACT_STRINGS)), .val (.int (1 : Int32)), .unset, .unset, .unset] [(.ref a19), (.ref b48)]))
            refine own_callV X136 hx hZ (y := (⟨"com/example/holdfast/holdfast/internal/Route", "equals", "(Ljava/lang/Object;)Z"⟩ : MethodName)) (z := (⟨"com/example/holdfast/holdfast/internal/Route", "equals", "(Ljava/lang/Object;)Z"⟩ : MethodName)) hown (hw _ (List.mem_of_getElem? (i := 58) rfl)) (hw _ (List.mem_of_getElem? (i := 59) rfl)) (notFace_of_selects (args := #[]) (mvT hZ (hw _ (List.mem_of_getElem? (i := 61) rfl)))) (hw _ (List.mem_of_getElem? (i := 61) rfl)) (hw _ (List.mem_of_getElem? (i := 60) rfl)) (hw _ (List.mem_of_getElem? (i := 39) rfl)) (hw _ (List.mem_of_getElem? (i := 62) rfl)) (by decide) G114 (own_mreo l Z a0 hw [] b48 a19  T79.heap n0 (Nat.le_trans Z0 K79.1) G115) 0 (by decide) (by decide) eq136 (by decide) (by decide) (g := (mkF m 170 #[.val (.int p0), .val (.int p1), .val (.int p2), .val (.int p3), .val (.int p4), .val (.long q5), .second, .val (.int v2), .val (.int v5), .val (.int v8), .val (.ref a10), .val (.ref a12), .val (.ref a19), .val (.ref a31), .val (.ref b48), .val (.ref b61), .val (.int (0 : Int32)), .val (.int (own_freq (own_mkl p1) (own_mkl p0) (own_mkl v5) (own_mkl v2) p2 v8 s_String_COMPACT_STRINGS)), .val (.int (own_freq (own_mkl v5) (own_mkl v2) (own_mkl p1) (own_mkl p0) v8 p2 s_String_COMPACT_STRINGS)), .val (.int (1 : Int32)), .unset, .unset, .unset] [(.ref a19), (.ref b48)])) rfl (by rw [hml']; rfl) (argsL := [(.ref a19)]) (rest := []) rfl (lenOf own_pd_Ljava_lang_Object__Z_838 rfl) rfl (by show 2 * 0 + _ ≤ _; exact Nat.le_of_eq rfl) (hb hby at_170) (fun r137 T137 L137 X137 hQ137 => ?_)
            obtain ⟨rfl, Nq137, eq137⟩ := hQ137
            have N137 := Fr.app N136 Nq137
            show own_End p e below P (T137.setTop (mkF m 173 #[.val (.int p0), .val (.int p1), .val (.int p2), .val (.int p3), .val (.int p4), .val (.long q5), .second, .val (.int v2), .val (.int v5), .val (.int v8), .val (.ref a10), .val (.ref a12), .val (.ref a19), .val (.ref a31), .val (.ref b48), .val (.ref b61), .val (.int (0 : Int32)), .val (.int (own_freq (own_mkl p1) (own_mkl p0) (own_mkl v5) (own_mkl v2) p2 v8 s_String_COMPACT_STRINGS)), .val (.int (own_freq (own_mkl v5) (own_mkl v2) (own_mkl p1) (own_mkl p0) v8 p2 s_String_COMPACT_STRINGS)), .val (.int (1 : Int32)), .unset, .unset, .unset] [(.int (0 : Int32))]))
            refine own_st (fun _ => XS.istore X137.here hx rfl (hb hby at_173) rfl (l' := #[.val (.int p0), .val (.int p1), .val (.int p2), .val (.int p3), .val (.int p4), .val (.long q5), .second, .val (.int v2), .val (.int v5), .val (.int v8), .val (.ref a10), .val (.ref a12), .val (.ref a19), .val (.ref a31), .val (.ref b48), .val (.ref b61), .val (.int (0 : Int32)), .val (.int (own_freq (own_mkl p1) (own_mkl p0) (own_mkl v5) (own_mkl v2) p2 v8 s_String_COMPACT_STRINGS)), .val (.int (own_freq (own_mkl v5) (own_mkl v2) (own_mkl p1) (own_mkl p0) v8 p2 s_String_COMPACT_STRINGS)), .val (.int (1 : Int32)), .val (.int (0 : Int32)), .unset, .unset]) rfl) ?_
            show own_End p e below P (T137.setTop (mkF m 175 #[.val (.int p0), .val (.int p1), .val (.int p2), .val (.int p3), .val (.int p4), .val (.long q5), .second, .val (.int v2), .val (.int v5), .val (.int v8), .val (.ref a10), .val (.ref a12), .val (.ref a19), .val (.ref a31), .val (.ref b48), .val (.ref b61), .val (.int (0 : Int32)), .val (.int (own_freq (own_mkl p1) (own_mkl p0) (own_mkl v5) (own_mkl v2) p2 v8 s_String_COMPACT_STRINGS)), .val (.int (own_freq (own_mkl v5) (own_mkl v2) (own_mkl p1) (own_mkl p0) v8 p2 s_String_COMPACT_STRINGS)), .val (.int (1 : Int32)), .val (.int (0 : Int32)), .unset, .unset] []))
            refine own_st (fun _ => XS.aload X137.here hx rfl (hb hby at_175) rfl rfl) ?_
            show own_End p e below P (T137.setTop (mkF m 177 #[.val (.int p0), .val (.int p1), .val (.int p2), .val (.int p3), .val (.int p4), .val (.long q5), .second, .val (.int v2), .val (.int v5), .val (.int v8), .val (.ref a10), .val (.ref a12), .val (.ref a19), .val (.ref a31), .val (.ref b48), .val (.ref b61), .val (.int (0 : Int32)), .val (.int (own_freq (own_mkl p1) (own_mkl p0) (own_mkl v5) (own_mkl v2) p2 v8 s_String_COMPACT_STRINGS)), .val (.int (own_freq (own_mkl v5) (own_mkl v2) (own_mkl p1) (own_mkl p0) v8 p2 s_String_COMPACT_STRINGS)), .val (.int (1 : Int32)), .val (.int (0 : Int32)), .unset, .unset] [(.ref b48)]))
            refine own_st (fun _ => XS.aconstNull X137.here hx rfl (hb hby at_177)) ?_
            show own_End p e below P (T137.setTop (mkF m 178 #[.val (.int p0), .val (.int p1), .val (.int p2), .val (.int p3), .val (.int p4), .val (.long q5), .second, .val (.int v2), .val (.int v5), .val (.int v8), .val (.ref a10), .val (.ref a12), .val (.ref a19), .val (.ref a31), .val (.ref b48), .val (.ref b61), .val (.int (0 : Int32)), .val (.int (own_freq (own_mkl p1) (own_mkl p0) (own_mkl v5) (own_mkl v2) p2 v8 s_String_COMPACT_STRINGS)), .val (.int (own_freq (own_mkl v5) (own_mkl v2) (own_mkl p1) (own_mkl p0) v8 p2 s_String_COMPACT_STRINGS)), .val (.int (1 : Int32)), .val (.int (0 : Int32)), .unset, .unset] [.null, (.ref b48)]))
            refine own_callV X137 hx hZ (y := (⟨"com/example/holdfast/holdfast/internal/Route", "equals", "(Ljava/lang/Object;)Z"⟩ : MethodName)) (z := (⟨"com/example/holdfast/holdfast/internal/Route", "equals", "(Ljava/lang/Object;)Z"⟩ : MethodName)) hown (hw _ (List.mem_of_getElem? (i := 58) rfl)) (hw _ (List.mem_of_getElem? (i := 59) rfl)) (notFace_of_selects (args := #[]) (mvT hZ (hw _ (List.mem_of_getElem? (i := 61) rfl)))) (hw _ (List.mem_of_getElem? (i := 61) rfl)) (hw _ (List.mem_of_getElem? (i := 60) rfl)) (hw _ (List.mem_of_getElem? (i := 39) rfl)) (hw _ (List.mem_of_getElem? (i := 62) rfl)) (by decide) G114 (own_mren l Z a0 hw [] b48  T79.heap n0 (Nat.le_trans Z0 K79.1) ) 0 (by decide) (by decide) eq137 (by decide) (by decide) (g := (mkF m 178 #[.val (.int p0), .val (.int p1), .val (.int p2), .val (.int p3), .val (.int p4), .val (.long q5), .second, .val (.int v2), .val (.int v5), .val (.int v8), .val (.ref a10), .val (.ref a12), .val (.ref a19), .val (.ref a31), .val (.ref b48), .val (.ref b61), .val (.int (0 : Int32)), .val (.int (own_freq (own_mkl p1) (own_mkl p0) (own_mkl v5) (own_mkl v2) p2 v8 s_String_COMPACT_STRINGS)), .val (.int (own_freq (own_mkl v5) (own_mkl v2) (own_mkl p1) (own_mkl p0) v8 p2 s_String_COMPACT_STRINGS)), .val (.int (1 : Int32)), .val (.int (0 : Int32)), .unset, .unset] [.null, (.ref b48)])) rfl (by rw [hml']; rfl) (argsL := [.null]) (rest := []) rfl (lenOf own_pd_Ljava_lang_Object__Z_838 rfl) rfl (by show 2 * 0 + _ ≤ _; exact Nat.le_of_eq rfl) (hb hby at_178) (fun r138 T138 L138 X138 hQ138 => ?_)
            obtain ⟨rfl, Nq138, eq138⟩ := hQ138
            have N138 := Fr.app N137 Nq138
            show own_End p e below P (T138.setTop (mkF m 181 #[.val (.int p0), .val (.int p1), .val (.int p2), .val (.int p3), .val (.int p4), .val (.long q5), .second, .val (.int v2), .val (.int v5), .val (.int v8), .val (.ref a10), .val (.ref a12), .val (.ref a19), .val (.ref a31), .val (.ref b48), .val (.ref b61), .val (.int (0 : Int32)), .val (.int (own_freq (own_mkl p1) (own_mkl p0) (own_mkl v5) (own_mkl v2) p2 v8 s_String_COMPACT_STRINGS)), .val (.int (own_freq (own_mkl v5) (own_mkl v2) (own_mkl p1) (own_mkl p0) v8 p2 s_String_COMPACT_STRINGS)), .val (.int (1 : Int32)), .val (.int (0 : Int32)), .unset, .unset] [(.int (0 : Int32))]))
            refine own_st (fun _ => XS.istore X138.here hx rfl (hb hby at_181) rfl (l' := #[.val (.int p0), .val (.int p1), .val (.int p2), .val (.int p3), .val (.int p4), .val (.long q5), .second, .val (.int v2), .val (.int v5), .val (.int v8), .val (.ref a10), .val (.ref a12), .val (.ref a19), .val (.ref a31), .val (.ref b48), .val (.ref b61), .val (.int (0 : Int32)), .val (.int (own_freq (own_mkl p1) (own_mkl p0) (own_mkl v5) (own_mkl v2) p2 v8 s_String_COMPACT_STRINGS)), .val (.int (own_freq (own_mkl v5) (own_mkl v2) (own_mkl p1) (own_mkl p0) v8 p2 s_String_COMPACT_STRINGS)), .val (.int (1 : Int32)), .val (.int (0 : Int32)), .val (.int (0 : Int32)), .unset]) rfl) ?_
            show own_End p e below P (T138.setTop (mkF m 183 #[.val (.int p0), .val (.int p1), .val (.int p2), .val (.int p3), .val (.int p4), .val (.long q5), .second, .val (.int v2), .val (.int v5), .val (.int v8), .val (.ref a10), .val (.ref a12), .val (.ref a19), .val (.ref a31), .val (.ref b48), .val (.ref b61), .val (.int (0 : Int32)), .val (.int (own_freq (own_mkl p1) (own_mkl p0) (own_mkl v5) (own_mkl v2) p2 v8 s_String_COMPACT_STRINGS)), .val (.int (own_freq (own_mkl v5) (own_mkl v2) (own_mkl p1) (own_mkl p0) v8 p2 s_String_COMPACT_STRINGS)), .val (.int (1 : Int32)), .val (.int (0 : Int32)), .val (.int (0 : Int32)), .unset] []))
            refine own_st (fun _ => XS.iload X138.here hx rfl (hb hby at_183) rfl) ?_
            show own_End p e below P (T138.setTop (mkF m 185 #[.val (.int p0), .val (.int p1), .val (.int p2), .val (.int p3), .val (.int p4), .val (.long q5), .second, .val (.int v2), .val (.int v5), .val (.int v8), .val (.ref a10), .val (.ref a12), .val (.ref a19), .val (.ref a31), .val (.ref b48), .val (.ref b61), .val (.int (0 : Int32)), .val (.int (own_freq (own_mkl p1) (own_mkl p0) (own_mkl v5) (own_mkl v2) p2 v8 s_String_COMPACT_STRINGS)), .val (.int (own_freq (own_mkl v5) (own_mkl v2) (own_mkl p1) (own_mkl p0) v8 p2 s_String_COMPACT_STRINGS)), .val (.int (1 : Int32)), .val (.int (0 : Int32)), .val (.int (0 : Int32)), .unset] [(.int (0 : Int32))]))
            refine own_st (fun _ => XS.ifYes X138.here hx rfl (pc0 := 185) (pc' := 201) rfl (hb hby at_185) rfl ((if0 _ _).trans (teq (by decide : (0 : Int32) = (0 : Int32))).1) (by decide) (by decide)) ?_
            show own_End p e below P (T138.setTop (mkF m 201 #[.val (.int p0), .val (.int p1), .val (.int p2), .val (.int p3), .val (.int p4), .val (.long q5), .second, .val (.int v2), .val (.int v5), .val (.int v8), .val (.ref a10), .val (.ref a12), .val (.ref a19), .val (.ref a31), .val (.ref b48), .val (.ref b61), .val (.int (0 : Int32)), .val (.int (own_freq (own_mkl p1) (own_mkl p0) (own_mkl v5) (own_mkl v2) p2 v8 s_String_COMPACT_STRINGS)), .val (.int (own_freq (own_mkl v5) (own_mkl v2) (own_mkl p1) (own_mkl p0) v8 p2 s_String_COMPACT_STRINGS)), .val (.int (1 : Int32)), .val (.int (0 : Int32)), .val (.int (0 : Int32)), .unset] []))
            refine own_st (fun _ => XS.iconst X138.here hx rfl (hb hby at_201)) ?_
            show own_End p e below P (T138.setTop (mkF m 202 #[.val (.int p0), .val (.int p1), .val (.int p2), .val (.int p3), .val (.int p4), .val (.long q5), .second, .val (.int v2), .val (.int v5), .val (.int v8), .val (.ref a10), .val (.ref a12), .val (.ref a19), .val (.ref a31), .val (.ref b48), .val (.ref b61), .val (.int (0 : Int32)), .val (.int (own_freq (own_mkl p1) (own_mkl p0) (own_mkl v5) (own_mkl v2) p2 v8 s_String_COMPACT_STRINGS)), .val (.int (own_freq (own_mkl v5) (own_mkl v2) (own_mkl p1) (own_mkl p0) v8 p2 s_String_COMPACT_STRINGS)), .val (.int (1 : Int32)), .val (.int (0 : Int32)), .val (.int (0 : Int32)), .unset] [(.int (1 : Int32))]))
            refine own_st (fun _ => XS.goto X138.here hx rfl (pc0 := 202) (pc' := 206) rfl (hb hby at_202) (by decide) (by decide)) ?_
            show own_End p e below P (T138.setTop (mkF m 206 #[.val (.int p0), .val (.int p1), .val (.int p2), .val (.int p3), .val (.int p4), .val (.long q5), .second, .val (.int v2), .val (.int v5), .val (.int v8), .val (.ref a10), .val (.ref a12), .val (.ref a19), .val (.ref a31), .val (.ref b48), .val (.ref b61), .val (.int (0 : Int32)), .val (.int (own_freq (own_mkl p1) (own_mkl p0) (own_mkl v5) (own_mkl v2) p2 v8 s_String_COMPACT_STRINGS)), .val (.int (own_freq (own_mkl v5) (own_mkl v2) (own_mkl p1) (own_mkl p0) v8 p2 s_String_COMPACT_STRINGS)), .val (.int (1 : Int32)), .val (.int (0 : Int32)), .val (.int (0 : Int32)), .unset] [(.int (1 : Int32))]))
            refine own_st (fun _ => XS.istore X138.here hx rfl (hb hby at_206) rfl (l' := #[.val (.int p0), .val (.int p1), .val (.int p2), .val (.int p3), .val (.int p4), .val (.long q5), .second, .val (.int v2), .val (.int v5), .val (.int v8), .val (.ref a10), .val (.ref a12), .val (.ref a19), .val (.ref a31), .val (.ref b48), .val (.ref b61), .val (.int (0 : Int32)), .val (.int (own_freq (own_mkl p1) (own_mkl p0) (own_mkl v5) (own_mkl v2) p2 v8 s_String_COMPACT_STRINGS)), .val (.int (own_freq (own_mkl v5) (own_mkl v2) (own_mkl p1) (own_mkl p0) v8 p2 s_String_COMPACT_STRINGS)), .val (.int (1 : Int32)), .val (.int (0 : Int32)), .val (.int (0 : Int32)), .val (.int (1 : Int32))]) rfl) ?_
            show own_End p e below P (T138.setTop (mkF m 208 #[.val (.int p0), .val (.int p1), .val (.int p2), .val (.int p3), .val (.int p4), .val (.long q5), .second, .val (.int v2), .val (.int v5), .val (.int v8), .val (.ref a10), .val (.ref a12), .val (.ref a19), .val (.ref a31), .val (.ref b48), .val (.ref b61), .val (.int (0 : Int32)), .val (.int (own_freq (own_mkl p1) (own_mkl p0) (own_mkl v5) (own_mkl v2) p2 v8 s_String_COMPACT_STRINGS)), .val (.int (own_freq (own_mkl v5) (own_mkl v2) (own_mkl p1) (own_mkl p0) v8 p2 s_String_COMPACT_STRINGS)), .val (.int (1 : Int32)), .val (.int (0 : Int32)), .val (.int (0 : Int32)), .val (.int (1 : Int32))] []))
            refine own_st (fun _ => XS.iload X138.here hx rfl (hb hby at_208) rfl) ?_
            show own_End p e below P (T138.setTop (mkF m 210 #[.val (.int p0), .val (.int p1), .val (.int p2), .val (.int p3), .val (.int p4), .val (.long q5), .second, .val (.int v2), .val (.int v5), .val (.int v8), .val (.ref a10), .val (.ref a12), .val (.ref a19), .val (.ref a31), .val (.ref b48), .val (.ref b61), .val (.int (0 : Int32)), .val (.int (own_freq (own_mkl p1) (own_mkl p0) (own_mkl v5) (own_mkl v2) p2 v8 s_String_COMPACT_STRINGS)), .val (.int (own_freq (own_mkl v5) (own_mkl v2) (own_mkl p1) (own_mkl p0) v8 p2 s_String_COMPACT_STRINGS)), .val (.int (1 : Int32)), .val (.int (0 : Int32)), .val (.int (0 : Int32)), .val (.int (1 : Int32))] [(.int (own_freq (own_mkl p1) (own_mkl p0) (own_mkl v5) (own_mkl v2) p2 v8 s_String_COMPACT_STRINGS))]))
            refine own_st (fun _ => XS.iload X138.here hx rfl (hb hby at_210) rfl) ?_
            show own_End p e below P (T138.setTop (mkF m 212 #[.val (.int p0), .val (.int p1), .val (.int p2), .val (.int p3), .val (.int p4), .val (.long q5), .second, .val (.int v2), .val (.int v5), .val (.int v8), .val (.ref a10), .val (.ref a12), .val (.ref a19), .val (.ref a31), .val (.ref b48), .val (.ref b61), .val (.int (0 : Int32)), .val (.int (own_freq (own_mkl p1) (own_mkl p0) (own_mkl v5) (own_mkl v2) p2 v8 s_String_COMPACT_STRINGS)), .val (.int (own_freq (own_mkl v5) (own_mkl v2) (own_mkl p1) (own_mkl p0) v8 p2 s_String_COMPACT_STRINGS)), .val (.int (1 : Int32)), .val (.int (0 : Int32)), .val (.int (0 : Int32)), .val (.int (1 : Int32))] [(.int (0 : Int32)), (.int (own_freq (own_mkl p1) (own_mkl p0) (own_mkl v5) (own_mkl v2) p2 v8 s_String_COMPACT_STRINGS))]))
            have hd139 : (own_freq (own_mkl p1) (own_mkl p0) (own_mkl v5) (own_mkl v2) p2 v8 s_String_COMPACT_STRINGS) = (0 : Int32) := by first | exact own_d1 (by assumption) | exact own_d1' (by assumption) | exact own_d2 (by assumption) | exact own_d2' (by assumption) | exact own_d3 (by assumption) | exact own_d3' (by assumption) | exact own_d4 (by assumption) (by assumption) (by assumption) | exact own_d4' (by assumption) (by assumption) (by assumption)
            refine own_st (fun _ => XS.icmpNo X138.here hx rfl (hb hby at_212) rfl (teq hd139).2) ?_
            show own_End p e below P (T138.setTop (mkF m 215 #[.val (.int p0), .val (.int p1), .val (.int p2), .val (.int p3), .val (.int p4), .val (.long q5), .second, .val (.int v2), .val (.int v5), .val (.int v8), .val (.ref a10), .val (.ref a12), .val (.ref a19), .val (.ref a31), .val (.ref b48), .val (.ref b61), .val (.int (0 : Int32)), .val (.int (own_freq (own_mkl p1) (own_mkl p0) (own_mkl v5) (own_mkl v2) p2 v8 s_String_COMPACT_STRINGS)), .val (.int (own_freq (own_mkl v5) (own_mkl v2) (own_mkl p1) (own_mkl p0) v8 p2 s_String_COMPACT_STRINGS)), .val (.int (1 : Int32)), .val (.int (0 : Int32)), .val (.int (0 : Int32)), .val (.int (1 : Int32))] []))
            refine own_st (fun _ => XS.iload X138.here hx rfl (hb hby at_215) rfl) ?_
            show own_End p e below P (T138.setTop (mkF m 217 #[.val (.int p0), .val (.int p1), .val (.int p2), .val (.int p3), .val (.int p4), .val (.long q5), .second, .val (.int v2), .val (.int v5), .val (.int v8), .val (.ref a10), .val (.ref a12), .val (.ref a19), .val (.ref a31), .val (.ref b48), .val (.ref b61), .val (.int (0 : Int32)), .val (.int (own_freq (own_mkl p1) (own_mkl p0) (own_mkl v5) (own_mkl v2) p2 v8 s_String_COMPACT_STRINGS)), .val (.int (own_freq (own_mkl v5) (own_mkl v2) (own_mkl p1) (own_mkl p0) v8 p2 s_String_COMPACT_STRINGS)), .val (.int (1 : Int32)), .val (.int (0 : Int32)), .val (.int (0 : Int32)), .val (.int (1 : Int32))] [(.int (own_freq (own_mkl v5) (own_mkl v2) (own_mkl p1) (own_mkl p0) v8 p2 s_String_COMPACT_STRINGS))]))
            refine own_st (fun _ => XS.iload X138.here hx rfl (hb hby at_217) rfl) ?_
            show own_End p e below P (T138.setTop (mkF m 219 #[.val (.int p0), .val (.int p1), .val (.int p2), .val (.int p3), .val (.int p4), .val (.long q5), .second, .val (.int v2), .val (.int v5), .val (.int v8), .val (.ref a10), .val (.ref a12), .val (.ref a19), .val (.ref a31), .val (.ref b48), .val (.ref b61), .val (.int (0 : Int32)), .val (.int (own_freq (own_mkl p1) (own_mkl p0) (own_mkl v5) (own_mkl v2) p2 v8 s_String_COMPACT_STRINGS)), .val (.int (own_freq (own_mkl v5) (own_mkl v2) (own_mkl p1) (own_mkl p0) v8 p2 s_String_COMPACT_STRINGS)), .val (.int (1 : Int32)), .val (.int (0 : Int32)), .val (.int (0 : Int32)), .val (.int (1 : Int32))] [(.int (0 : Int32)), (.int (own_freq (own_mkl v5) (own_mkl v2) (own_mkl p1) (own_mkl p0) v8 p2 s_String_COMPACT_STRINGS))]))
            have hd140 : (own_freq (own_mkl v5) (own_mkl v2) (own_mkl p1) (own_mkl p0) v8 p2 s_String_COMPACT_STRINGS) = (0 : Int32) := by first | exact own_d1 (by assumption) | exact own_d1' (by assumption) | exact own_d2 (by assumption) | exact own_d2' (by assumption) | exact own_d3 (by assumption) | exact own_d3' (by assumption) | exact own_d4 (by assumption) (by assumption) (by assumption) | exact own_d4' (by assumption) (by assumption) (by assumption)
            refine own_st (fun _ => XS.icmpNo X138.here hx rfl (hb hby at_219) rfl (teq hd140).2) ?_
            show own_End p e below P (T138.setTop (mkF m 222 #[.val (.int p0), .val (.int p1), .val (.int p2), .val (.int p3), .val (.int p4), .val (.long q5), .second, .val (.int v2), .val (.int v5), .val (.int v8), .val (.ref a10), .val (.ref a12), .val (.ref a19), .val (.ref a31), .val (.ref b48), .val (.ref b61), .val (.int (0 : Int32)), .val (.int (own_freq (own_mkl p1) (own_mkl p0) (own_mkl v5) (own_mkl v2) p2 v8 s_String_COMPACT_STRINGS)), .val (.int (own_freq (own_mkl v5) (own_mkl v2) (own_mkl p1) (own_mkl p0) v8 p2 s_String_COMPACT_STRINGS)), .val (.int (1 : Int32)), .val (.int (0 : Int32)), .val (.int (0 : Int32)), .val (.int (1 : Int32))] []))
            refine own_st (fun _ => XS.iload X138.here hx rfl (hb hby at_222) rfl) ?_
            show own_End p e below P (T138.setTop (mkF m 224 #[.val (.int p0), .val (.int p1), .val (.int p2), .val (.int p3), .val (.int p4), .val (.long q5), .second, .val (.int v2), .val (.int v5), .val (.int v8), .val (.ref a10), .val (.ref a12), .val (.ref a19), .val (.ref a31), .val (.ref b48), .val (.ref b61), .val (.int (0 : Int32)), .val (.int (own_freq (own_mkl p1) (own_mkl p0) (own_mkl v5) (own_mkl v2) p2 v8 s_String_COMPACT_STRINGS)), .val (.int (own_freq (own_mkl v5) (own_mkl v2) (own_mkl p1) (own_mkl p0) v8 p2 s_String_COMPACT_STRINGS)), .val (.int (1 : Int32)), .val (.int (0 : Int32)), .val (.int (0 : Int32)), .val (.int (1 : Int32))] [(.int (1 : Int32))]))
            refine own_st (fun _ => XS.ifNo X138.here hx rfl (hb hby at_224) rfl ((if0 _ _).trans (feq (by decide : ¬ ((1 : Int32) = (0 : Int32)))).1)) ?_
            show own_End p e below P (T138.setTop (mkF m 227 #[.val (.int p0), .val (.int p1), .val (.int p2), .val (.int p3), .val (.int p4), .val (.long q5), .second, .val (.int v2), .val (.int v5), .val (.int v8), .val (.ref a10), .val (.ref a12), .val (.ref a19), .val (.ref a31), .val (.ref b48), .val (.ref b61), .val (.int (0 : Int32)), .val (.int (own_freq (own_mkl p1) (own_mkl p0) (own_mkl v5) (own_mkl v2) p2 v8 s_String_COMPACT_STRINGS)), .val (.int (own_freq (own_mkl v5) (own_mkl v2) (own_mkl p1) (own_mkl p0) v8 p2 s_String_COMPACT_STRINGS)), .val (.int (1 : Int32)), .val (.int (0 : Int32)), .val (.int (0 : Int32)), .val (.int (1 : Int32))] []))
            refine own_st (fun _ => XS.iload X138.here hx rfl (hb hby at_227) rfl) ?_
            show own_End p e below P (T138.setTop (mkF m 229 #[.val (.int p0), .val (.int p1), .val (.int p2), .val (.int p3), .val (.int p4), .val (.long q5), .second, .val (.int v2), .val (.int v5), .val (.int v8), .val (.ref a10), .val (.ref a12), .val (.ref a19), .val (.ref a31), .val (.ref b48), .val (.ref b61), .val (.int (0 : Int32)), .val (.int (own_freq (own_mkl p1) (own_mkl p0) (own_mkl v5) (own_mkl v2) p2 v8 s_String_COMPACT_STRINGS)), .val (.int (own_freq (own_mkl v5) (own_mkl v2) (own_mkl p1) (own_mkl p0) v8 p2 s_String_COMPACT_STRINGS)), .val (.int (1 : Int32)), .val (.int (0 : Int32)), .val (.int (0 : Int32)), .val (.int (1 : Int32))] [(.int (0 : Int32))]))
            refine own_st (fun _ => XS.ifNo X138.here hx rfl (hb hby at_229) rfl ((if0 _ _).trans (teq (by decide : (0 : Int32) = (0 : Int32))).2)) ?_
            show own_End p e below P (T138.setTop (mkF m 232 #[.val (.int p0), .val (.int p1), .val (.int p2), .val (.int p3), .val (.int p4), .val (.long q5), .second, .val (.int v2), .val (.int v5), .val (.int v8), .val (.ref a10), .val (.ref a12), .val (.ref a19), .val (.ref a31), .val (.ref b48), .val (.ref b61), .val (.int (0 : Int32)), .val (.int (own_freq (own_mkl p1) (own_mkl p0) (own_mkl v5) (own_mkl v2) p2 v8 s_String_COMPACT_STRINGS)), .val (.int (own_freq (own_mkl v5) (own_mkl v2) (own_mkl p1) (own_mkl p0) v8 p2 s_String_COMPACT_STRINGS)), .val (.int (1 : Int32)), .val (.int (0 : Int32)), .val (.int (0 : Int32)), .val (.int (1 : Int32))] []))
            refine own_st (fun _ => XS.iload X138.here hx rfl (hb hby at_232) rfl) ?_
            show own_End p e below P (T138.setTop (mkF m 234 #[.val (.int p0), .val (.int p1), .val (.int p2), .val (.int p3), .val (.int p4), .val (.long q5), .second, .val (.int v2), .val (.int v5), .val (.int v8), .val (.ref a10), .val (.ref a12), .val (.ref a19), .val (.ref a31), .val (.ref b48), .val (.ref b61), .val (.int (0 : Int32)), .val (.int (own_freq (own_mkl p1) (own_mkl p0) (own_mkl v5) (own_mkl v2) p2 v8 s_String_COMPACT_STRINGS)), .val (.int (own_freq (own_mkl v5) (own_mkl v2) (own_mkl p1) (own_mkl p0) v8 p2 s_String_COMPACT_STRINGS)), .val (.int (1 : Int32)), .val (.int (0 : Int32)), .val (.int (0 : Int32)), .val (.int (1 : Int32))] [(.int (0 : Int32))]))
            refine own_st (fun _ => XS.ifNo X138.here hx rfl (hb hby at_234) rfl ((if0 _ _).trans (teq (by decide : (0 : Int32) = (0 : Int32))).2)) ?_
            show own_End p e below P (T138.setTop (mkF m 237 #[.val (.int p0), .val (.int p1), .val (.int p2), .val (.int p3), .val (.int p4), .val (.long q5), .second, .val (.int v2), .val (.int v5), .val (.int v8), .val (.ref a10), .val (.ref a12), .val (.ref a19), .val (.ref a31), .val (.ref b48), .val (.ref b61), .val (.int (0 : Int32)), .val (.int (own_freq (own_mkl p1) (own_mkl p0) (own_mkl v5) (own_mkl v2) p2 v8 s_String_COMPACT_STRINGS)), .val (.int (own_freq (own_mkl v5) (own_mkl v2) (own_mkl p1) (own_mkl p0) v8 p2 s_String_COMPACT_STRINGS)), .val (.int (1 : Int32)), .val (.int (0 : Int32)), .val (.int (0 : Int32)), .val (.int (1 : Int32))] []))
            refine own_st (fun _ => XS.iload X138.here hx rfl (hb hby at_237) rfl) ?_
            show own_End p e below P (T138.setTop (mkF m 239 #[.val (.int p0), .val (.int p1), .val (.int p2), .val (.int p3), .val (.int p4), .val (.long q5), .second, .val (.int v2), .val (.int v5), .val (.int v8), .val (.ref a10), .val (.ref a12), .val (.ref a19), .val (.ref a31), .val (.ref b48), .val (.ref b61), .val (.int (0 : Int32)), .val (.int (own_freq (own_mkl p1) (own_mkl p0) (own_mkl v5) (own_mkl v2) p2 v8 s_String_COMPACT_STRINGS)), .val (.int (own_freq (own_mkl v5) (own_mkl v2) (own_mkl p1) (own_mkl p0) v8 p2 s_String_COMPACT_STRINGS)), .val (.int (1 : Int32)), .val (.int (0 : Int32)), .val (.int (0 : Int32)), .val (.int (1 : Int32))] [(.int (1 : Int32))]))
            refine own_st (fun _ => XS.ifNo X138.here hx rfl (hb hby at_239) rfl ((if0 _ _).trans (feq (by decide : ¬ ((1 : Int32) = (0 : Int32)))).1)) ?_
            show own_End p e below P (T138.setTop (mkF m 242 #[.val (.int p0), .val (.int p1), .val (.int p2), .val (.int p3), .val (.int p4), .val (.long q5), .second, .val (.int v2), .val (.int v5), .val (.int v8), .val (.ref a10), .val (.ref a12), .val (.ref a19), .val (.ref a31), .val (.ref b48), .val (.ref b61), .val (.int (0 : Int32)), .val (.int (own_freq (own_mkl p1) (own_mkl p0) (own_mkl v5) (own_mkl v2) p2 v8 s_String_COMPACT_STRINGS)), .val (.int (own_freq (own_mkl v5) (own_mkl v2) (own_mkl p1) (own_mkl p0) v8 p2 s_String_COMPACT_STRINGS)), .val (.int (1 : Int32)), .val (.int (0 : Int32)), .val (.int (0 : Int32)), .val (.int (1 : Int32))] []))
            refine own_st (fun _ => XS.iconst X138.here hx rfl (hb hby at_242)) ?_
            show own_End p e below P (T138.setTop (mkF m 243 #[.val (.int p0), .val (.int p1), .val (.int p2), .val (.int p3), .val (.int p4), .val (.long q5), .second, .val (.int v2), .val (.int v5), .val (.int v8), .val (.ref a10), .val (.ref a12), .val (.ref a19), .val (.ref a31), .val (.ref b48), .val (.ref b61), .val (.int (0 : Int32)), .val (.int (own_freq (own_mkl p1) (own_mkl p0) (own_mkl v5) (own_mkl v2) p2 v8 s_String_COMPACT_STRINGS)), .val (.int (own_freq (own_mkl v5) (own_mkl v2) (own_mkl p1) (own_mkl p0) v8 p2 s_String_COMPACT_STRINGS)), .val (.int (1 : Int32)), .val (.int (0 : Int32)), .val (.int (0 : Int32)), .val (.int (1 : Int32))] [(.int (1 : Int32))]))
            refine own_st (fun _ => XS.goto X138.here hx rfl (pc0 := 243) (pc' := 247) rfl (hb hby at_243) (by decide) (by decide)) ?_
            show own_End p e below P (T138.setTop (mkF m 247 #[.val (.int p0), .val (.int p1), .val (.int p2), .val (.int p3), .val (.int p4), .val (.long q5), .second, .val (.int v2), .val (.int v5), .val (.int v8), .val (.ref a10), .val (.ref a12), .val (.ref a19), .val (.ref a31), .val (.ref b48), .val (.ref b61), .val (.int (0 : Int32)), .val (.int (own_freq (own_mkl p1) (own_mkl p0) (own_mkl v5) (own_mkl v2) p2 v8 s_String_COMPACT_STRINGS)), .val (.int (own_freq (own_mkl v5) (own_mkl v2) (own_mkl p1) (own_mkl p0) v8 p2 s_String_COMPACT_STRINGS)), .val (.int (1 : Int32)), .val (.int (0 : Int32)), .val (.int (0 : Int32)), .val (.int (1 : Int32))] [(.int (1 : Int32))]))
            have G141 := (Nat.le_trans (Nat.le_trans (Nat.le_trans (Nat.le_trans hk31 E48.1) Kq60.1) E61.1) Kq79.1)
            exact own_retNW X138 hS G141 eq138 hx hlk hP (t := .boolean) (by simp) hrt (hb hby at_247) (by decide) (by decide) ⟨rfl, N138⟩
          · refine own_st (fun _ => XS.ifNo X111.here hx rfl (hb hby at_123) rfl ((if0 _ _).trans (feq hc112).1)) ?_
            show own_End p e below P (T111.setTop (mkF m 126 #[.val (.int p0), .val (.int p1), .val (.int p2), .val (.int p3), .val (.int p4), .val (.long q5), .second, .val (.int v2), .val (.int v5), .val (.int v8), .val (.ref a10), .val (.ref a12), .val (.ref a19), .val (.ref a31), .val (.ref b48), .val (.ref b61), .unset, .unset, .unset, .unset, .unset, .unset, .unset] []))
            refine own_st (fun _ => XS.iloadN X111.here hx rfl (hb hby at_126) rfl) ?_
            show own_End p e below P (T111.setTop (mkF m 127 #[.val (.int p0), .val (.int p1), .val (.int p2), .val (.int p3), .val (.int p4), .val (.long q5), .second, .val (.int v2), .val (.int v5), .val (.int v8), .val (.ref a10), .val (.ref a12), .val (.ref a19), .val (.ref a31), .val (.ref b48), .val (.ref b61), .unset, .unset, .unset, .unset, .unset, .unset, .unset] [(.int p2)]))
            refine own_st (fun _ => XS.iload X111.here hx rfl (hb hby at_127) rfl) ?_
            show own_End p e below P (T111.setTop (mkF m 129 #[.val (.int p0), .val (.int p1), .val (.int p2), .val (.int p3), .val (.int p4), .val (.long q5), .second, .val (.int v2), .val (.int v5), .val (.int v8), .val (.ref a10), .val (.ref a12), .val (.ref a19), .val (.ref a31), .val (.ref b48), .val (.ref b61), .unset, .unset, .unset, .unset, .unset, .unset, .unset] [(.int v8), (.int p2)]))
            by_cases hc142 : p2 = v8
            · refine own_st (fun _ => XS.icmpNo X111.here hx rfl (hb hby at_129) rfl (teq hc142).2) ?_
              show own_End p e below P (T111.setTop (mkF m 132 #[.val (.int p0), .val (.int p1), .val (.int p2), .val (.int p3), .val (.int p4), .val (.long q5), .second, .val (.int v2), .val (.int v5), .val (.int v8), .val (.ref a10), .val (.ref a12), .val (.ref a19), .val (.ref a31), .val (.ref b48), .val (.ref b61), .unset, .unset, .unset, .unset, .unset, .unset, .unset] []))
              refine own_st (fun _ => XS.iconst X111.here hx rfl (hb hby at_132)) ?_
              show own_End p e below P (T111.setTop (mkF m 133 #[.val (.int p0), .val (.int p1), .val (.int p2), .val (.int p3), .val (.int p4), .val (.long q5), .second, .val (.int v2), .val (.int v5), .val (.int v8), .val (.ref a10), .val (.ref a12), .val (.ref a19), .val (.ref a31), .val (.ref b48), .val (.ref b61), .unset, .unset, .unset, .unset, .unset, .unset, .unset] [(.int (1 : Int32))]))
              refine own_st (fun _ => XS.goto X111.here hx rfl (pc0 := 133) (pc' := 137) rfl (hb hby at_133) (by decide) (by decide)) ?_
              show own_End p e below P (T111.setTop (mkF m 137 #[.val (.int p0), .val (.int p1), .val (.int p2), .val (.int p3), .val (.int p4), .val (.long q5), .second, .val (.int v2), .val (.int v5), .val (.int v8), .val (.ref a10), .val (.ref a12), .val (.ref a19), .val (.ref a31), .val (.ref b48), .val (.ref b61), .unset, .unset, .unset, .unset, .unset, .unset, .unset] [(.int (1 : Int32))]))
              refine own_st (fun _ => XS.istore X111.here hx rfl (hb hby at_137) rfl (l' := #[.val (.int p0), .val (.int p1), .val (.int p2), .val (.int p3), .val (.int p4), .val (.long q5), .second, .val (.int v2), .val (.int v5), .val (.int v8), .val (.ref a10), .val (.ref a12), .val (.ref a19), .val (.ref a31), .val (.ref b48), .val (.ref b61), .val (.int (1 : Int32)), .unset, .unset, .unset, .unset, .unset, .unset]) rfl) ?_
              show own_End p e below P (T111.setTop (mkF m 139 #[.val (.int p0), .val (.int p1), .val (.int p2), .val (.int p3), .val (.int p4), .val (.long q5), .second, .val (.int v2), .val (.int v5), .val (.int v8), .val (.ref a10), .val (.ref a12), .val (.ref a19), .val (.ref a31), .val (.ref b48), .val (.ref b61), .val (.int (1 : Int32)), .unset, .unset, .unset, .unset, .unset, .unset] []))
              refine own_st (fun _ => XS.aload X111.here hx rfl (hb hby at_139) rfl rfl) ?_
              show own_End p e below P (T111.setTop (mkF m 141 #[.val (.int p0), .val (.int p1), .val (.int p2), .val (.int p3), .val (.int p4), .val (.long q5), .second, .val (.int v2), .val (.int v5), .val (.int v8), .val (.ref a10), .val (.ref a12), .val (.ref a19), .val (.ref a31), .val (.ref b48), .val (.ref b61), .val (.int (1 : Int32)), .unset, .unset, .unset, .unset, .unset, .unset] [(.ref b48)]))
              refine own_st (fun _ => XS.aload X111.here hx rfl (hb hby at_141) rfl rfl) ?_
              show own_End p e below P (T111.setTop (mkF m 143 #[.val (.int p0), .val (.int p1), .val (.int p2), .val (.int p3), .val (.int p4), .val (.long q5), .second, .val (.int v2), .val (.int v5), .val (.int v8), .val (.ref a10), .val (.ref a12), .val (.ref a19), .val (.ref a31), .val (.ref b48), .val (.ref b61), .val (.int (1 : Int32)), .unset, .unset, .unset, .unset, .unset, .unset] [(.ref b61), (.ref b48)]))
              have G144 := ((f0_60.ext E61).keep Kq79)
              have G145 := ((G67.ext E61).keep Kq79)
              have G146 := ((G63.ext E61).keep Kq79)
              have G147 := ((G69.ext E61).keep Kq79)
              have G148 := ((G65.ext E61).keep Kq79)
              have G149 := ((f3_60.ext E61).keep Kq79 (ninS ne70 nin0))
              have G150 := ((f2_60.ext E61).keep Kq79 (ninS ne70 nin0))
              have G151 := ((f1_60.ext E61).keep Kq79 (ninS ne70 nin0))
              have G152 := (((((fv19.keep Kq31 nin0).ext E48).keep Kq60 (ninS ne51 nin0)).ext E61).keep Kq79 (ninS ne66 nin0))
              have G153 := (((((fc19.keep Kq31 nin0).ext E48).keep Kq60 (ninS ne51 nin0)).ext E61).keep Kq79 (ninS ne66 nin0))
              have G154 := (((((((fv10.keep Kq12 nin0).keep Kq19 nin0).keep Kq31 nin0).ext E48).keep Kq60 (ninS ne49 nin0)).ext E61).keep Kq79 (ninS ne62 nin0))
              have G155 := (((((((fc10.keep Kq12 nin0).keep Kq19 nin0).keep Kq31 nin0).ext E48).keep Kq60 (ninS ne49 nin0)).ext E61).keep Kq79 (ninS ne62 nin0))
              have G156 := ((((fv31.ext E48).keep Kq60 (ninS ne52 nin0)).ext E61).keep Kq79 (ninS ne68 nin0))
              have G157 := ((((fc31.ext E48).keep Kq60 (ninS ne52 nin0)).ext E61).keep Kq79 (ninS ne68 nin0))
              have G158 := ((((((fv12.keep Kq19 nin0).keep Kq31 nin0).ext E48).keep Kq60 (ninS ne50 nin0)).ext E61).keep Kq79 (ninS ne64 nin0))
              have G159 := ((((((fc12.keep Kq19 nin0).keep Kq31 nin0).ext E48).keep Kq60 (ninS ne50 nin0)).ext E61).keep Kq79 (ninS ne64 nin0))
              have G160 := (own_StaKeep ((own_StaKeep ((own_StaKeep G32 Kq31 all0).ext E48) Kq60 (allS (own_nst A48) all0)).ext E61) Kq79 (allS (own_nst A61) all0))
              have G161 := ((G76.ext E61).keep Kq79 (ninS ne75 nin0))
              have G162 := ((G72.ext E61).keep Kq79 (ninS ne71 nin0))
              have G163 := ((G78.ext E61).keep Kq79 (ninS ne77 nin0))
              have G164 := ((G74.ext E61).keep Kq79 (ninS ne73 nin0))
              refine own_callV X111 hx hZ (y := (⟨"com/example/holdfast/holdfast/internal/Route", "equals", "(Ljava/lang/Object;)Z"⟩ : MethodName)) (z := (⟨"com/example/holdfast/holdfast/internal/Route", "equals", "(Ljava/lang/Object;)Z"⟩ : MethodName)) hown (hw _ (List.mem_of_getElem? (i := 58) rfl)) (hw _ (List.mem_of_getElem? (i := 59) rfl)) (notFace_of_selects (args := #[]) (mvT hZ (hw _ (List.mem_of_getElem? (i := 61) rfl)))) (hw _ (List.mem_of_getElem? (i := 61) rfl)) (hw _ (List.mem_of_getElem? (i := 60) rfl)) (hw _ (List.mem_of_getElem? (i := 39) rfl)) (hw _ (List.mem_of_getElem? (i := 62) rfl)) (by decide) G144 (own_mreq l Z a0 hw [] b48 b61 (own_mkl p1) (own_mkl p0) (own_mkl v5) (own_mkl v2) p2 a19 a10 v8 a31 a12 v19 v10 v31 v12 s_String_COMPACT_STRINGS T79.heap n0 (Nat.le_trans Z0 K79.1) G144 f0_79 G145 G146 G147 G148 G149 G150 G151 f3_79 f2_79 f1_79 G152 G153 G154 G155 G156 G157 G158 G159 G160 G161 G162 G163 G164 ne35 ne14 hnz (own_mkl_len _) (own_mkl_len _) (own_mkl_len _) (own_mkl_len _)) 0 (by decide) (by decide) eq111 (by decide) (by decide) (g := (mkF m 143 #[.val (.int p0), .val (.int p1), .val (.int p2), .val (.int p3), .val (.int p4), .val (.long q5), .second, .val (.int v2), .val (.int v5), .val (.int v8), .val (.ref a10), .val (.ref a12), .val (.ref a19), .val (.ref a31), .val (.ref b48), .val (.ref b61), .val (.int (1 : Int32)), .unset, .unset, .unset, .unset, .unset, .unset] [(.ref b61), (.ref b48)])) rfl (by rw [hml']; rfl) (argsL := [(.ref b61)]) (rest := []) rfl (lenOf own_pd_Ljava_lang_Object__Z_838 rfl) rfl (by show 2 * 0 + _ ≤ _; exact Nat.le_of_eq rfl) (hb hby at_143) (fun r143 T143 L143 X143 hQ143 => ?_)
              obtain ⟨rfl, Nq143, eq143⟩ := hQ143
              have N143 := Fr.app N111 Nq143
              show own_End p e below P (T143.setTop (mkF m 146 #[.val (.int p0), .val (.int p1), .val (.int p2), .val (.int p3), .val (.int p4), .val (.long q5), .second, .val (.int v2), .val (.int v5), .val (.int v8), .val (.ref a10), .val (.ref a12), .val (.ref a19), .val (.ref a31), .val (.ref b48), .val (.ref b61), .val (.int (1 : Int32)), .unset, .unset, .unset, .unset, .unset, .unset] [(.int (own_freq (own_mkl p1) (own_mkl p0) (own_mkl v5) (own_mkl v2) p2 v8 s_String_COMPACT_STRINGS))]))
              refine own_st (fun _ => XS.istore X143.here hx rfl (hb hby at_146) rfl (l' := #[.val (.int p0), .val (.int p1), .val (.int p2), .val (.int p3), .val (.int p4), .val (.long q5), .second, .val (.int v2), .val (.int v5), .val (.int v8), .val (.ref a10), .val (.ref a12), .val (.ref a19), .val (.ref a31), .val (.ref b48), .val (.ref b61), .val (.int (1 : Int32)), .val (.int (own_freq (own_mkl p1) (own_mkl p0) (own_mkl v5) (own_mkl v2) p2 v8 s_String_COMPACT_STRINGS)), .unset, .unset, .unset, .unset, .unset]) rfl) ?_
              show own_End p e below P (T143.setTop (mkF m 148 #[.val (.int p0), .val (.int p1), .val (.int p2), .val (.int p3), .val (.int p4), .val (.long q5), .second, .val (.int v2), .val (.int v5), .val (.int v8), .val (.ref a10), .val (.ref a12), .val (.ref a19), .val (.ref a31), .val (.ref b48), .val (.ref b61), .val (.int (1 : Int32)), .val (.int (own_freq (own_mkl p1) (own_mkl p0) (own_mkl v5) (own_mkl v2) p2 v8 s_String_COMPACT_STRINGS)), .unset, .unset, .unset, .unset, .unset] []))
              refine own_st (fun _ => XS.aload X143.here hx rfl (hb hby at_148) rfl rfl) ?_
              show own_End p e below P (T143.setTop (mkF m 150 #[.val (.int p0), .val (.int p1), .val (.int p2), .val (.int p3), .val (.int p4), .val (.long q5), .second, .val (.int v2), .val (.int v5), .val (.int v8), .val (.ref a10), .val (.ref a12), .val (.ref a19), .val (.ref a31), .val (.ref b48), .val (.ref b61), .val (.int (1 : Int32)), .val (.int (own_freq (own_mkl p1) (own_mkl p0) (own_mkl v5) (own_mkl v2) p2 v8 s_String_COMPACT_STRINGS)), .unset, .unset, .unset, .unset, .unset] [(.ref b61)]))
              refine own_st (fun _ => XS.aload X143.here hx rfl (hb hby at_150) rfl rfl) ?_
              show own_End p e below P (T143.setTop (mkF m 152 #[.val (.int p0), .val (.int p1), .val (.int p2), .val (.int p3), .val (.int p4), .val (.long q5), .second, .val (.int v2), .val (.int v5), .val (.int v8), .val (.ref a10), .val (.ref a12), .val (.ref a19), .val (.ref a31), .val (.ref b48), .val (.ref b61), .val (.int (1 : Int32)), .val (.int (own_freq (own_mkl p1) (own_mkl p0) (own_mkl v5) (own_mkl v2) p2 v8 s_String_COMPACT_STRINGS)), .unset, .unset, .unset, .unset, .unset] [(.ref b48), (.ref b61)]))
              refine own_callV X143 hx hZ (y := (⟨"com/example/holdfast/holdfast/internal/Route", "equals", "(Ljava/lang/Object;)Z"⟩ : MethodName)) (z := (⟨"com/example/holdfast/holdfast/internal/Route", "equals", "(Ljava/lang/Object;)Z"⟩ : MethodName)) hown (hw _ (List.mem_of_getElem? (i := 58) rfl)) (hw _ (List.mem_of_getElem? (i := 59) rfl)) (notFace_of_selects (args := #[]) (mvT hZ (hw _ (List.mem_of_getElem? (i := 61) rfl)))) (hw _ (List.mem_of_getElem? (i := 61) rfl)) (hw _ (List.mem_of_getElem? (i := 60) rfl)) (hw _ (List.mem_of_getElem? (i := 39) rfl)) (hw _ (List.mem_of_getElem? (i := 62) rfl)) (by decide) f0_79 (own_mreq l Z a0 hw [] b61 b48 (own_mkl v5) (own_mkl v2) (own_mkl p1) (own_mkl p0) v8 a31 a12 p2 a19 a10 v31 v12 v19 v10 s_String_COMPACT_STRINGS T79.heap n0 (Nat.le_trans Z0 K79.1) f0_79 G144 G147 G148 G145 G146 f3_79 f2_79 f1_79 G149 G150 G151 G156 G157 G158 G159 G152 G153 G154 G155 G160 G163 G164 G161 G162 (Ne.symm ne35) (Ne.symm ne14) hnz (own_mkl_len _) (own_mkl_len _) (own_mkl_len _) (own_mkl_len _)) 0 (by decide) (by decide) eq143 (by decide) (by decide) (g := (mkF m 152 #[.val (.int p0), .val (.int p1), .val (.int p2), .val (.int p3), .val (.int p4), .val (.long q5), .second, .val (.int v2), .val (.int v5), .val (.int v8), .val (.ref a10), .val (.ref a12), .val (.ref a19), .val (.ref a31), .val (.ref b48), .val (.ref b61), .val (.int (1 : Int32)), .val (.int (own_freq (own_mkl p1) (own_mkl p0) (own_mkl v5) (own_mkl v2) p2 v8 s_String_COMPACT_STRINGS)), .unset, .unset, .unset, .unset, .unset] [(.ref b48), (.ref b61)])) rfl (by rw [hml']; rfl) (argsL := [(.ref b48)]) (rest := []) rfl (lenOf own_pd_Ljava_lang_Object__Z_838 rfl) rfl (by show 2 * 0 + _ ≤ _; exact Nat.le_of_eq rfl) (hb hby at_152) (fun r165 T165 L165 X165 hQ165 => ?_)
              obtain ⟨rfl, Nq165, eq165⟩ := hQ165
              have N165 := Fr.app N143 Nq165
              show own_End p e below P (T165.setTop (mkF m 155 #[.val (.int p0), .val (.int p1), .val (.int p2), .val (.int p3), .val (.int p4), .val (.long q5), .second, .val (.int v2), .val (.int v5), .val (.int v8), .val (.ref a10), .val (.ref a12), .val (.ref a19), .val (.ref a31), .val (.ref b48), .val (.ref b61), .val (.int (1 : Int32)), .val (.int (own_freq (own_mkl p1) (own_mkl p0) (own_mkl v5) (own_mkl v2) p2 v8 s_String_COMPACT_STRINGS)), .unset, .unset, .unset, .unset, .unset] [(.int (own_freq (own_mkl v5) (own_mkl v2) (own_mkl p1) (own_mkl p0) v8 p2 s_String_COMPACT_STRINGS))]))
              refine own_st (fun _ => XS.istore X165.here hx rfl (hb hby at_155) rfl (l' := #[.val (.int p0), .val (.int p1), .val (.int p2), .val (.int p3), .val (.int p4), .val (.long q5), .second, .val (.int v2), .val (.int v5), .val (.int v8), .val (.ref a10), .val (.ref a12), .val (.ref a19), .val (.ref a31), .val (.ref b48), .val (.ref b61), .val (.int (1 : Int32)), .val (.int (own_freq (own_mkl p1) (own_mkl p0) (own_mkl v5) (own_mkl v2) p2 v8 s_String_COMPACT_STRINGS)), .val (.int (own_freq (own_mkl v5) (own_mkl v2) (own_mkl p1) (own_mkl p0) v8 p2 s_String_COMPACT_STRINGS)), .unset, .unset, .unset, .unset]) rfl) ?_
              show own_End p e below P (T165.setTop (mkF m 157 #[.val (.int p0), .val (.int p1), .val (.int p2), .val (.int p3), .val (.int p4), .val (.long q5), .second, .val (.int v2), .val (.int v5), .val (.int v8), .val (.ref a10), .val (.ref a12), .val (.ref a19), .val (.ref a31), .val (.ref b48), .val (.ref b61), .val (.int (1 : Int32)), .val (.int (own_freq (own_mkl p1) (own_mkl p0) (own_mkl v5) (own_mkl v2) p2 v8 s_String_COMPACT_STRINGS)), .val (.int (own_freq (own_mkl v5) (own_mkl v2) (own_mkl p1) (own_mkl p0) v8 p2 s_String_COMPACT_STRINGS)), .unset, .unset, .unset, .unset] []))
              refine own_st (fun _ => XS.aload X165.here hx rfl (hb hby at_157) rfl rfl) ?_
              show own_End p e below P (T165.setTop (mkF m 159 #[.val (.int p0), .val (.int p1), .val (.int p2), .val (.int p3), .val (.int p4), .val (.long q5), .second, .val (.int v2), .val (.int v5), .val (.int v8), .val (.ref a10), .val (.ref a12), .val (.ref a19), .val (.ref a31), .val (.ref b48), .val (.ref b61), .val (.int (1 : Int32)), .val (.int (own_freq (own_mkl p1) (own_mkl p0) (own_mkl v5) (own_mkl v2) p2 v8 s_String_COMPACT_STRINGS)), .val (.int (own_freq (own_mkl v5) (own_mkl v2) (own_mkl p1) (own_mkl p0) v8 p2 s_String_COMPACT_STRINGS)), .unset, .unset, .unset, .unset] [(.ref b48)]))
              refine own_st (fun _ => XS.aload X165.here hx rfl (hb hby at_159) rfl rfl) ?_
              show own_End p e below P (T165.setTop (mkF m 161 #[.val (.int p0), .val (.int p1), .val (.int p2), .val (.int p3), .val (.int p4), .val (.long q5), .second, .val (.int v2), .val (.int v5), .val (.int v8), .val (.ref a10), .val (.ref a12), .val (.ref a19), .val (.ref a31), .val (.ref b48), .val (.ref b61), .val (.int (1 : Int32)), .val (.int (own_freq (own_mkl p1) (own_mkl p0) (own_mkl v5) (own_mkl v2) p2 v8 s_String_COMPACT_STRINGS)), .val (.int (own_freq (own_mkl v5) (own_mkl v2) (own_mkl p1) (own_mkl p0) v8 p2 s_String_COMPACT_STRINGS)), .unset, .unset, .unset, .unset] [(.ref b48), (.ref b48)]))
              refine own_callV X165 hx hZ (y := (⟨"com/example/holdfast/holdfast/internal/Route", "equals", "(Ljava/lang/Object;)Z"⟩ : MethodName)) (z := (⟨"com/example/holdfast/holdfast/internal/Route", "equals", "(Ljava/lang/Object;)Z"⟩ : MethodName)) hown (hw _ (List.mem_of_getElem? (i := 58) rfl)) (hw _ (List.mem_of_getElem? (i := 59) rfl)) (notFace_of_selects (args := #[]) (mvT hZ (hw _ (List.mem_of_getElem? (i := 61) rfl)))) (hw _ (List.mem_of_getElem? (i := 61) rfl)) (hw _ (List.mem_of_getElem? (i := 60) rfl)) (hw _ (List.mem_of_getElem? (i := 39) rfl)) (hw _ (List.mem_of_getElem? (i := 62) rfl)) (by decide) G144 (own_mres l Z a0 hw [] b48 p2 a19 a10 T79.heap n0 (Nat.le_trans Z0 K79.1) G144 G145 G146 G149 G150 G151) 0 (by decide) (by decide) eq165 (by decide) (by decide) (g := (mkF m 161 #[.val (.int p0), .val (.int p1), .val (.int p2), .val (.int p3), .val (.int p4), .val (.long q5), .second, .val (.int v2), .val (.int v5), .val (.int v8), .val (.ref a10), .val (.ref a12), .val (.ref a19), .val (.ref a31), .val (.ref b48), .val (.ref b61), .val (.int (1 : Int32)), .val (.int (own_freq (own_mkl p1) (own_mkl p0) (own_mkl v5) (own_mkl v2) p2 v8 s_String_COMPACT_STRINGS)), .val (.int (own_freq (own_mkl v5) (own_mkl v2) (own_mkl p1) (own_mkl p0) v8 p2 s_String_COMPACT_STRINGS)), .unset, .unset, .unset, .unset] [(.ref b48), (.ref b48)])) rfl (by rw [hml']; rfl) (argsL := [(.ref b48)]) (rest := []) rfl (lenOf own_pd_Ljava_lang_Object__Z_838 rfl) rfl (by show 2 * 0 + _ ≤ _; exact Nat.le_of_eq rfl) (hb hby at_161) (fun r166 T166 L166 X166 hQ166 => ?_)
              obtain ⟨rfl, Nq166, eq166⟩ := hQ166
              have N166 := Fr.app N165 Nq166
              show own_End p e below P (T166.setTop (mkF m 164 #[.val (.int p0), .val (.int p1), .val (.int p2), .val (.int p3), .val (.int p4), .val (.long q5), .second, .val (.int v2), .val (.int v5), .val (.int v8), .val (.ref a10), .val (.ref a12), .val (.ref a19), .val (.ref a31), .val (.ref b48), .val (.ref b61), .val (.int (1 : Int32)), .val (.int (own_freq (own_mkl p1) (own_mkl p0) (own_mkl v5) (own_mkl v2) p2 v8 s_String_COMPACT_STRINGS)), .val (.int (own_freq (own_mkl v5) (own_mkl v2) (own_mkl p1) (own_mkl p0) v8 p2 s_String_COMPACT_STRINGS)), .unset, .unset, .unset, .unset] [(.int (1 : Int32))]))
              refine own_st (fun _ => XS.istore X166.here hx rfl (hb hby at_164) rfl (l' := #[.val (.int p0), .val (.int p1), .val (.int p2), .val (.int p3), .val (.int p4), .val (.long q5), .second, .val (.int v2), .val (.int v5), .val (.int v8), .val (.ref a10), .val (.ref a12), .val (.ref a19), .val (.ref a31), .val (.ref b48), .val (.ref b61), .val (.int (1 : Int32)), .val (.int (own_freq (own_mkl p1) (own_mkl p0) (own_mkl v5) (own_mkl v2) p2 v8 s_String_COMPACT_STRINGS)), .val (.int (own_freq (own_mkl v5) (own_mkl v2) (own_mkl p1) (own_mkl p0) v8 p2 s_String_COMPACT_STRINGS)), .val (.int (1 : Int32)), .unset, .unset, .unset]) rfl) ?_
              show own_End p e below P (T166.setTop (mkF m 166 #[.val (.int p0), .val (.int p1), .val (.int p2), .val (.int p3), .val (.int p4), .val (.long q5), .second, .val (.int v2), .val (.int v5), .val (.int v8), .val (.ref a10), .val (.ref a12), .val (.ref a19), .val (.ref a31), .val (.ref b48), .val (.ref b61), .val (.int (1 : Int32)), .val (.int (own_freq (own_mkl p1) (own_mkl p0) (own_mkl v5) (own_mkl v2) p2 v8 s_String_COMPACT_STRINGS)), .val (.int (own_freq (own_mkl v5) (own_mkl v2) (own_mkl p1) (own_mkl p0) v8 p2 s_String_COMPACT_STRINGS)), .val (.int (1 : Int32)), .unset, .unset, .unset] []))
              refine own_st (fun _ => XS.aload X166.here hx rfl (hb hby at_166) rfl rfl) ?_
              show own_End p e below P (T166.setTop (mkF m 168 #[.val (.int p0), .val (.int p1), .val (.int p2), .val (.int p3), .val (.int p4), .val (.long q5), .second, .val (.int v2), .val (.int v5), .val (.int v8), .val (.ref a10), .val (.ref a12), .val (.ref a19), .val (.ref a31), .val (.ref b48), .val (.ref b61), .val (.int (1 : Int32)), .val (.int (own_freq (own_mkl p1) (own_mkl p0) (own_mkl v5) (own_mkl v2) p2 v8 s_String_COMPACT_STRINGS)), .val (.int (own_freq (own_mkl v5) (own_mkl v2) (own_mkl p1) (own_mkl p0) v8 p2 s_String_COMPACT_STRINGS)), .val (.int (1 : Int32)), .unset, .unset, .unset] [(.ref b48)]))
              refine own_st (fun _ => XS.aload X166.here hx rfl (hb hby at_168) rfl rfl) ?_
              show own_End p e below P (T166.setTop (mkF m 170 #[.val (.int p0), .val (.int p1), .val (.int p2), .val (.int p3), .val (.int p4), .val (.long q5), .second, .val (.int v2), .val (.int v5), .val (.int v8), .val (.ref a10), .val (.ref a12), .val (.ref a19), .val (.ref a31), .val (.ref b48), .val (.ref b61), .val (.int (1 : Int32)), .val (.int (own_freq (own_mkl p1) (own_mkl p0) (own_mkl v5) (own_mkl v2) p2 v8 s_String_COMPACT_STRINGS)), .val (.int (own_freq (own_mkl v5) (own_mkl v2) (own_mkl p1) (own_mkl p0) v8 p2 s_String_COMPACT_STRINGS)), .val (.int (1 : Int32)), .unset, .unset, .unset] [(.ref a19), (.ref b48)]))
              refine own_callV X166 hx hZ (y := (⟨"com/example/holdfast/holdfast/internal/Route", "equals", "(Ljava/lang/Object;)Z"⟩ : MethodName)) (z := (⟨"com/example/holdfast/holdfast/internal/Route", "equals", "(Ljava/lang/Object;)Z"⟩ : MethodName)) hown (hw _ (List.mem_of_getElem? (i := 58) rfl)) (hw _ (List.mem_of_getElem? (i := 59) rfl)) (notFace_of_selects (args := #[]) (mvT hZ (hw _ (List.mem_of_getElem? (i := 61) rfl)))) (hw _ (List.mem_of_getElem? (i := 61) rfl)) (hw _ (List.mem_of_getElem? (i := 60) rfl)) (hw _ (List.mem_of_getElem? (i := 39) rfl)) (hw _ (List.mem_of_getElem? (i := 62) rfl)) (by decide) G144 (own_mreo l Z a0 hw [] b48 a19  T79.heap n0 (Nat.le_trans Z0 K79.1) G145) 0 (by decide) (by decide) eq166 (by decide) (by decide) (g := (mkF m 170 #[.val (.int p0), .val (.int p1), .val (.int p2), .val (.int p3), .val (.int p4), .val (.long q5), .second, .val (.int v2), .val (.int v5), .val (.int v8), .val (.ref a10), .val (.ref a12), .val (.ref a19), .val (.ref a31), .val (.ref b48), .val (.ref b61), .val (.int (1 : Int32)), .val (.int (own_freq (own_mkl p1) (own_mkl p0) (own_mkl v5) (own_mkl v2) p2 v8 s_String_COMPACT_STRINGS)), .val (.int (own_freq (own_mkl v5) (own_mkl v2) (own_mkl p1) (own_mkl p0) v8 p2 s_String_COMPACT_STRINGS)), .val (.int (1 : Int32)), .unset, .unset, .unset] [(.ref a19), (.ref b48)])) rfl (by rw [hml']; rfl) (argsL := [(.ref a19)]) (rest := []) rfl (lenOf own_pd_Ljava_lang_Object__Z_838 rfl) rfl (by show 2 * 0 + _ ≤ _; exact Nat.le_of_eq rfl) (hb hby at_170) (fun r167 T167 L167 X167 hQ167 => ?_)
              obtain ⟨rfl, Nq167, eq167⟩ := hQ167
              have N167 := Fr.app N166 Nq167
              show own_End p e below P (T167.setTop (mkF m 173 #[.val (.int p0), .val (.int p1), .val (.int p2), .val (.int p3), .val (.int p4), .val (.long q5), .second, .val (.int v2), .val (.int v5), .val (.int v8), .val (.ref a10), .val (.ref a12), .val (.ref a19), .val (.ref a31), .val (.ref b48), .val (.ref b61), .val (.int (1 : Int32)), .val (.int (own_freq (own_mkl p1) (own_mkl p0) (own_mkl v5) (own_mkl v2) p2 v8 s_String_COMPACT_STRINGS)), .val (.int (own_freq (own_mkl v5) (own_mkl v2) (own_mkl p1) (own_mkl p0) v8 p2 s_String_COMPACT_STRINGS)), .val (.int (1 : Int32)), .unset, .unset, .unset] [(.int (0 : Int32))]))
              refine own_st (fun _ => XS.istore X167.here hx rfl (hb hby at_173) rfl (l' := #[.val (.int p0), .val (.int p1), .val (.int p2), .val (.int p3), .val (.int p4), .val (.long q5), .second, .val (.int v2), .val (.int v5), .val (.int v8), .val (.ref a10), .val (.ref a12), .val (.ref a19), .val (.ref a31), .val (.ref b48), .val (.ref b61), .val (.int (1 : Int32)), .val (.int (own_freq (own_mkl p1) (own_mkl p0) (own_mkl v5) (own_mkl v2) p2 v8 s_String_COMPACT_STRINGS)), .val (.int (own_freq (own_mkl v5) (own_mkl v2) (own_mkl p1) (own_mkl p0) v8 p2 s_String_COMPACT_STRINGS)), .val (.int (1 : Int32)), .val (.int (0 : Int32)), .unset, .unset]) rfl) ?_
              show own_End p e below P (T167.setTop (mkF m 175 #[.val (.int p0), .val (.int p1), .val (.int p2), .val (.int p3), .val (.int p4), .val (.long q5), .second, .val (.int v2), .val (.int v5), .val (.int v8), .val (.ref a10), .val (.ref a12), .val (.ref a19), .val (.ref a31), .val (.ref b48), .val (.ref b61), .val (.int (1 : Int32)), .val (.int (own_freq (own_mkl p1) (own_mkl p0) (own_mkl v5) (own_mkl v2) p2 v8 s_String_COMPACT_STRINGS)), .val (.int (own_freq (own_mkl v5) (own_mkl v2) (own_mkl p1) (own_mkl p0) v8 p2 s_String_COMPACT_STRINGS)), .val (.int (1 : Int32)), .val (.int (0 : Int32)), .unset, .unset] []))
              refine own_st (fun _ => XS.aload X167.here hx rfl (hb hby at_175) rfl rfl) ?_
              show own_End p e below P (T167.setTop (mkF m 177 #[.val (.int p0), .val (.int p1), .val (.int p2), .val (.int p3), .val (.int p4), .val (.long q5), .second, .val (.int v2), .val (.int v5), .val (.int v8), .val (.ref a10), .val (.ref a12), .val (.ref a19), .val (.ref a31), .val (.ref b48), .val (.ref b61), .val (.int (1 : Int32)), .val (.int (own_freq (own_mkl p1) (own_mkl p0) (own_mkl v5) (own_mkl v2) p2 v8 s_String_COMPACT_STRINGS)), .val (.int (own_freq (own_mkl v5) (own_mkl v2) (own_mkl p1) (own_mkl p0) v8 p2 s_String_COMPACT_STRINGS)), .val (.int (1 : Int32)), .val (.int (0 : Int32)), .unset, .unset] [(.ref b48)]))
              refine own_st (fun _ => XS.aconstNull X167.here hx rfl (hb hby at_177)) ?_
              show own_End p e below P (T167.setTop (mkF m 178 #[.val (.int p0), .val (.int p1), .val (.int p2), .val (.int p3), .val (.int p4), .val (.long q5), .second, .val (.int v2), .val (.int v5), .val (.int v8), .val (.ref a10), .val (.ref a12), .val (.ref a19), .val (.ref a31), .val (.ref b48), .val (.ref b61), .val (.int (1 : Int32)), .val (.int (own_freq (own_mkl p1) (own_mkl p0) (own_mkl v5) (own_mkl v2) p2 v8 s_String_COMPACT_STRINGS)), .val (.int (own_freq (own_mkl v5) (own_mkl v2) (own_mkl p1) (own_mkl p0) v8 p2 s_String_COMPACT_STRINGS)), .val (.int (1 : Int32)), .val (.int (0 : Int32)), .unset, .unset] [.null, (.ref b48)]))
              refine own_callV X167 hx hZ (y := (⟨"com/example/holdfast/holdfast/internal/Route", "equals", "(Ljava/lang/Object;)Z"⟩ : MethodName)) (z := (⟨"com/example/holdfast/holdfast/internal/Route", "equals", "(Ljava/lang/Object;)Z"⟩ : MethodName)) hown (hw _ (List.mem_of_getElem? (i := 58) rfl)) (hw _ (List.mem_of_getElem? (i := 59) rfl)) (notFace_of_selects (args := #[]) (mvT hZ (hw _ (List.mem_of_getElem? (i := 61) rfl)))) (hw _ (List.mem_of_getElem? (i := 61) rfl)) (hw _ (List.mem_of_getElem? (i := 60) rfl)) (hw _ (List.mem_of_getElem? (i := 39) rfl)) (hw _ (List.mem_of_getElem? (i := 62) rfl)) (by decide) G144 (own_mren l Z a0 hw [] b48  T79.heap n0 (Nat.le_trans Z0 K79.1) ) 0 (by decide) (by decide) eq167 (by decide) (by decide) (g := (mkF m 178 #[.val (.int p0), .val (.int p1), .val (.int p2), .val (.int p3), .val (.int p4), .val (.long q5), .second, .val (.int v2), .val (.int v5), .val (.int v8), .val (.ref a10), .val (.ref a12), .val (.ref a19), .val (.ref a31), .val (.ref b48), .val (.ref b61), .val (.int (1 : Int32)), .val (.int (own_freq (own_mkl p1) (own_mkl p0) (own_mkl v5) (own_mkl v2) p2 v8 s_String_COMPACT_STRINGS)), .val (.int (own_freq (own_mkl v5) (own_mkl v2) (own_mkl p1) (own_mkl p0) v8 p2 s_String_COMPACT_STRINGS)), .val (.int (1 : Int32)), .val (.int (0 : Int32)), .unset, .unset] [.null, (.ref b48)])) rfl (by rw [hml']; rfl) (argsL := [.null]) (rest := []) rfl (lenOf own_pd_Ljava_lang_Object__Z_838 rfl) rfl (by show 2 * 0 + _ ≤ _; exact Nat.le_of_eq rfl) (hb hby at_178) (fun r168 T168 L168 X168 hQ168 => ?_)
              obtain ⟨rfl, Nq168, eq168⟩ := hQ168
              have N168 := Fr.app N167 Nq168
              show own_End p e below P (T168.setTop (mkF m 181 #[.val (.int p0), .val (.int p1), .val (.int p2), .val (.int p3), .val (.int p4), .val (.long q5), .second, .val (.int v2), .val (.int v5), .val (.int v8), .val (.ref a10), .val (.ref a12), .val (.ref a19), .val (.ref a31), .val (.ref b48), .val (.ref b61), .val (.int (1 : Int32)), .val (.int (own_freq (own_mkl p1) (own_mkl p0) (own_mkl v5) (own_mkl v2) p2 v8 s_String_COMPACT_STRINGS)), .val (.int (own_freq (own_mkl v5) (own_mkl v2) (own_mkl p1) (own_mkl p0) v8 p2 s_String_COMPACT_STRINGS)), .val (.int (1 : Int32)), .val (.int (0 : Int32)), .unset, .unset] [(.int (0 : Int32))]))
              refine own_st (fun _ => XS.istore X168.here hx rfl (hb hby at_181) rfl (l' := #[.val (.int p0), .val (.int p1), .val (.int p2), .val (.int p3), .val (.int p4), .val (.long q5), .second, .val (.int v2), .val (.int v5), .val (.int v8), .val (.ref a10), .val (.ref a12), .val (.ref a19), .val (.ref a31), .val (.ref b48), .val (.ref b61), .val (.int (1 : Int32)), .val (.int (own_freq (own_mkl p1) (own_mkl p0) (own_mkl v5) (own_mkl v2) p2 v8 s_String_COMPACT_STRINGS)), .val (.int (own_freq (own_mkl v5) (own_mkl v2) (own_mkl p1) (own_mkl p0) v8 p2 s_String_COMPACT_STRINGS)), .val (.int (1 : Int32)), .val (.int (0 : Int32)), .val (.int (0 : Int32)), .unset]) rfl) ?_
              show own_End p e below P (T168.setTop (mkF m 183 #[.val (.int p0), .val (.int p1), .val (.int p2), .val (.int p3), .val (.int p4), .val (.long q5), .second, .val (.int v2), .val (.int v5), .val (.int v8), .val (.ref a10), .val (.ref a12), .val (.ref a19), .val (.ref a31), .val (.ref b48), .val (.ref b61), .val (.int (1 : Int32)), .val (.int (own_freq (own_mkl p1) (own_mkl p0) (own_mkl v5) (own_mkl v2) p2 v8 s_String_COMPACT_STRINGS)), .val (.int (own_freq (own_mkl v5) (own_mkl v2) (own_mkl p1) (own_mkl p0) v8 p2 s_String_COMPACT_STRINGS)), .val (.int (1 : Int32)), .val (.int (0 : Int32)), .val (.int (0 : Int32)), .unset] []))
              refine own_st (fun _ => XS.iload X168.here hx rfl (hb hby at_183) rfl) ?_
              show own_End p e below P (T168.setTop (mkF m 185 #[.val (.int p0), .val (.int p1), .val (.int p2), .val (.int p3), .val (.int p4), .val (.long q5), .second, .val (.int v2), .val (.int v5), .val (.int v8), .val (.ref a10), .val (.ref a12), .val (.ref a19), .val (.ref a31), .val (.ref b48), .val (.ref b61), .val (.int (1 : Int32)), .val (.int (own_freq (own_mkl p1) (own_mkl p0) (own_mkl v5) (own_mkl v2) p2 v8 s_String_COMPACT_STRINGS)), .val (.int (own_freq (own_mkl v5) (own_mkl v2) (own_mkl p1) (own_mkl p0) v8 p2 s_String_COMPACT_STRINGS)), .val (.int (1 : Int32)), .val (.int (0 : Int32)), .val (.int (0 : Int32)), .unset] [(.int (1 : Int32))]))
              refine own_st (fun _ => XS.ifNo X168.here hx rfl (hb hby at_185) rfl ((if0 _ _).trans (feq (by decide : ¬ ((1 : Int32) = (0 : Int32)))).1)) ?_
              show own_End p e below P (T168.setTop (mkF m 188 #[.val (.int p0), .val (.int p1), .val (.int p2), .val (.int p3), .val (.int p4), .val (.long q5), .second, .val (.int v2), .val (.int v5), .val (.int v8), .val (.ref a10), .val (.ref a12), .val (.ref a19), .val (.ref a31), .val (.ref b48), .val (.ref b61), .val (.int (1 : Int32)), .val (.int (own_freq (own_mkl p1) (own_mkl p0) (own_mkl v5) (own_mkl v2) p2 v8 s_String_COMPACT_STRINGS)), .val (.int (own_freq (own_mkl v5) (own_mkl v2) (own_mkl p1) (own_mkl p0) v8 p2 s_String_COMPACT_STRINGS)), .val (.int (1 : Int32)), .val (.int (0 : Int32)), .val (.int (0 : Int32)), .unset] []))
              refine own_st (fun _ => XS.aload X168.here hx rfl (hb hby at_188) rfl rfl) ?_
              show own_End p e below P (T168.setTop (mkF m 190 #[.val (.int p0), .val (.int p1), .val (.int p2), .val (.int p3), .val (.int p4), .val (.long q5), .second, .val (.int v2), .val (.int v5), .val (.int v8), .val (.ref a10), .val (.ref a12), .val (.ref a19), .val (.ref a31), .val (.ref b48), .val (.ref b61), .val (.int (1 : Int32)), .val (.int (own_freq (own_mkl p1) (own_mkl p0) (own_mkl v5) (own_mkl v2) p2 v8 s_String_COMPACT_STRINGS)), .val (.int (own_freq (own_mkl v5) (own_mkl v2) (own_mkl p1) (own_mkl p0) v8 p2 s_String_COMPACT_STRINGS)), .val (.int (1 : Int32)), .val (.int (0 : Int32)), .val (.int (0 : Int32)), .unset] [(.ref b48)]))
              have G170 := (((((fh19.keep Kq31 nin0).ext E48).keep Kq60 (ninS ne51 nin0)).ext E61).keep Kq79 (ninS ne66 nin0))
              have G171 := (((((fz19.keep Kq31 nin0).ext E48).keep Kq60 (ninS ne51 nin0)).ext E61).keep Kq79 (ninS ne66 nin0))
              have G172 := (((((((fh10.keep Kq12 nin0).keep Kq19 nin0).keep Kq31 nin0).ext E48).keep Kq60 (ninS ne49 nin0)).ext E61).keep Kq79 (ninS ne62 nin0))
              have G173 := (((((((fz10.keep Kq12 nin0).keep Kq19 nin0).keep Kq31 nin0).ext E48).keep Kq60 (ninS ne49 nin0)).ext E61).keep Kq79 (ninS ne62 nin0))
              refine own_callV X168 hx hZ (y := (⟨"com/example/holdfast/holdfast/internal/Route", "hashCode", "()I"⟩ : MethodName)) (z := (⟨"com/example/holdfast/holdfast/internal/Route", "hashCode", "()I"⟩ : MethodName)) hown (hw _ (List.mem_of_getElem? (i := 77) rfl)) (hw _ (List.mem_of_getElem? (i := 78) rfl)) (notFace_of_selects (args := #[]) (mvT hZ (hw _ (List.mem_of_getElem? (i := 80) rfl)))) (hw _ (List.mem_of_getElem? (i := 80) rfl)) (hw _ (List.mem_of_getElem? (i := 79) rfl)) (hw _ (List.mem_of_getElem? (i := 39) rfl)) (hw _ (List.mem_of_getElem? (i := 81) rfl)) (by decide) G144 (own_mrh l Z a0 hw [] b48 (own_mkl p1) (own_mkl p0) p2 a19 a10 v19 v10 s_String_COMPACT_STRINGS T79.heap n0 (Nat.le_trans Z0 K79.1) G144 G145 G146 G149 G150 G151 G152 G153 G170 G171 G154 G155 G172 G173 G160 G161 G162 lw19 lw10 (Ne.symm ne21) (Ne.symm ne51) (Ne.symm ne49) ne26 ne30 (Ne.symm ne24) hnz (own_mkl_len _) (own_mkl_len _)) 0 (by decide) (by decide) eq168 (by decide) (by decide) (g := (mkF m 190 #[.val (.int p0), .val (.int p1), .val (.int p2), .val (.int p3), .val (.int p4), .val (.long q5), .second, .val (.int v2), .val (.int v5), .val (.int v8), .val (.ref a10), .val (.ref a12), .val (.ref a19), .val (.ref a31), .val (.ref b48), .val (.ref b61), .val (.int (1 : Int32)), .val (.int (own_freq (own_mkl p1) (own_mkl p0) (own_mkl v5) (own_mkl v2) p2 v8 s_String_COMPACT_STRINGS)), .val (.int (own_freq (own_mkl v5) (own_mkl v2) (own_mkl p1) (own_mkl p0) v8 p2 s_String_COMPACT_STRINGS)), .val (.int (1 : Int32)), .val (.int (0 : Int32)), .val (.int (0 : Int32)), .unset] [(.ref b48)])) rfl (by rw [hml']; rfl) (argsL := []) (rest := []) rfl (lenOf own_pd_I_154 rfl) rfl (by show 2 * 0 + _ ≤ _; exact Nat.le_of_eq rfl) (hb hby at_190) (fun r169 T169 L169 X169 hQ169 => ?_)
              obtain ⟨rfl, Nq169, Kq169⟩ := hQ169
              have N169 := Fr.app N168 Nq169
              have K169 := Keep.trans K79 Kq169 (allS (Or.inr sz10) (allS (Or.inr sz19) all0))
              show own_End p e below P (T169.setTop (mkF m 193 #[.val (.int p0), .val (.int p1), .val (.int p2), .val (.int p3), .val (.int p4), .val (.long q5), .second, .val (.int v2), .val (.int v5), .val (.int v8), .val (.ref a10), .val (.ref a12), .val (.ref a19), .val (.ref a31), .val (.ref b48), .val (.ref b61), .val (.int (1 : Int32)), .val (.int (own_freq (own_mkl p1) (own_mkl p0) (own_mkl v5) (own_mkl v2) p2 v8 s_String_COMPACT_STRINGS)), .val (.int (own_freq (own_mkl v5) (own_mkl v2) (own_mkl p1) (own_mkl p0) v8 p2 s_String_COMPACT_STRINGS)), .val (.int (1 : Int32)), .val (.int (0 : Int32)), .val (.int (0 : Int32)), .unset] [(.int (((((own_fhl (own_mkl p0)) * (31 : Int32)) + (own_fhl (own_mkl p1))) * (31 : Int32)) + p2))]))
              refine own_st (fun _ => XS.aload X169.here hx rfl (hb hby at_193) rfl rfl) ?_
              show own_End p e below P (T169.setTop (mkF m 195 #[.val (.int p0), .val (.int p1), .val (.int p2), .val (.int p3), .val (.int p4), .val (.long q5), .second, .val (.int v2), .val (.int v5), .val (.int v8), .val (.ref a10), .val (.ref a12), .val (.ref a19), .val (.ref a31), .val (.ref b48), .val (.ref b61), .val (.int (1 : Int32)), .val (.int (own_freq (own_mkl p1) (own_mkl p0) (own_mkl v5) (own_mkl v2) p2 v8 s_String_COMPACT_STRINGS)), .val (.int (own_freq (own_mkl v5) (own_mkl v2) (own_mkl p1) (own_mkl p0) v8 p2 s_String_COMPACT_STRINGS)), .val (.int (1 : Int32)), .val (.int (0 : Int32)), .val (.int (0 : Int32)), .unset] [(.ref b61), (.int (((((own_fhl (own_mkl p0)) * (31 : Int32)) + (own_fhl (own_mkl p1))) * (31 : Int32)) + p2))]))
              have G175 := (f0_79.keep Kq169)
              have G176 := (G147.keep Kq169)
              have G177 := (G148.keep Kq169)
              have G178 := (f3_79.keep Kq169 (ninS (Ne.symm ne62) (ninS (Ne.symm ne66) nin0)))
              have G179 := (f2_79.keep Kq169 (ninS (Ne.symm ne62) (ninS (Ne.symm ne66) nin0)))
              have G180 := (f1_79.keep Kq169 (ninS (Ne.symm ne62) (ninS (Ne.symm ne66) nin0)))
              have G181 := (G156.keep Kq169 (ninS (Ne.symm ne33) (ninS (Ne.symm ne35) nin0)))
              have G182 := (G157.keep Kq169 (ninS (Ne.symm ne33) (ninS (Ne.symm ne35) nin0)))
              have G183 := (((((fh31.ext E48).keep Kq60 (ninS ne52 nin0)).ext E61).keep Kq79 (ninS ne68 nin0)).keep Kq169 (ninS (Ne.symm ne33) (ninS (Ne.symm ne35) nin0)))
              have G184 := (((((fz31.ext E48).keep Kq60 (ninS ne52 nin0)).ext E61).keep Kq79 (ninS ne68 nin0)).keep Kq169 (ninS (Ne.symm ne33) (ninS (Ne.symm ne35) nin0)))
              have G185 := (G158.keep Kq169 (ninS (Ne.symm ne14) (ninS ne22 nin0)))
              have G186 := (G159.keep Kq169 (ninS (Ne.symm ne14) (ninS ne22 nin0)))
              have G187 := (((((((fh12.keep Kq19 nin0).keep Kq31 nin0).ext E48).keep Kq60 (ninS ne50 nin0)).ext E61).keep Kq79 (ninS ne64 nin0)).keep Kq169 (ninS (Ne.symm ne14) (ninS ne22 nin0)))
              have G188 := (((((((fz12.keep Kq19 nin0).keep Kq31 nin0).ext E48).keep Kq60 (ninS ne50 nin0)).ext E61).keep Kq79 (ninS ne64 nin0)).keep Kq169 (ninS (Ne.symm ne14) (ninS ne22 nin0)))
              have G189 := (own_StaKeep G160 Kq169 (allS (own_nst G146) (allS (own_nst G145) all0)))
              have G190 := (G163.keep Kq169 (ninS (Ne.symm ne41) (ninS (Ne.symm ne45) nin0)))
              have G191 := (G164.keep Kq169 (ninS (Ne.symm ne16) (ninS ne25 nin0)))
              refine own_callV X169 hx hZ (y := (⟨"com/example/holdfast/holdfast/internal/Route", "hashCode", "()I"⟩ : MethodName)) (z := (⟨"com/example/holdfast/holdfast/internal/Route", "hashCode", "()I"⟩ : MethodName)) hown (hw _ (List.mem_of_getElem? (i := 77) rfl)) (hw _ (List.mem_of_getElem? (i := 78) rfl)) (notFace_of_selects (args := #[]) (mvT hZ (hw _ (List.mem_of_getElem? (i := 80) rfl)))) (hw _ (List.mem_of_getElem? (i := 80) rfl)) (hw _ (List.mem_of_getElem? (i := 79) rfl)) (hw _ (List.mem_of_getElem? (i := 39) rfl)) (hw _ (List.mem_of_getElem? (i := 81) rfl)) (by decide) G175 (own_mrh l Z a0 hw [] b61 (own_mkl v5) (own_mkl v2) v8 a31 a12 v31 v12 s_String_COMPACT_STRINGS T169.heap n0 (Nat.le_trans Z0 K169.1) G175 G176 G177 G178 G179 G180 G181 G182 G183 G184 G185 G186 G187 G188 G189 G190 G191 lw31 lw12 (Ne.symm ne34) (Ne.symm ne68) (Ne.symm ne64) ne43 ne47 (Ne.symm ne39) hnz (own_mkl_len _) (own_mkl_len _)) 1 (by decide) (by decide) rfl (by decide) (by decide) (g := (mkF m 195 #[.val (.int p0), .val (.int p1), .val (.int p2), .val (.int p3), .val (.int p4), .val (.long q5), .second, .val (.int v2), .val (.int v5), .val (.int v8), .val (.ref a10), .val (.ref a12), .val (.ref a19), .val (.ref a31), .val (.ref b48), .val (.ref b61), .val (.int (1 : Int32)), .val (.int (own_freq (own_mkl p1) (own_mkl p0) (own_mkl v5) (own_mkl v2) p2 v8 s_String_COMPACT_STRINGS)), .val (.int (own_freq (own_mkl v5) (own_mkl v2) (own_mkl p1) (own_mkl p0) v8 p2 s_String_COMPACT_STRINGS)), .val (.int (1 : Int32)), .val (.int (0 : Int32)), .val (.int (0 : Int32)), .unset] [(.ref b61), (.int (((((own_fhl (own_mkl p0)) * (31 : Int32)) + (own_fhl (own_mkl p1))) * (31 : Int32)) + p2))])) rfl (by rw [hml']; rfl) (argsL := []) (rest := [(.int (((((own_fhl (own_mkl p0)) * (31 : Int32)) + (own_fhl (own_mkl p1))) * (31 : Int32)) + p2))]) rfl (lenOf own_pd_I_154 rfl) rfl (by show 2 * 0 + _ ≤ _; exact Nat.le_of_eq rfl) (hb hby at_195) (fun r174 T174 L174 X174 hQ174 => ?_)
              obtain ⟨rfl, Nq174, Kq174⟩ := hQ174
              have N174 := Fr.app N169 Nq174
              have K174 := Keep.trans K169 Kq174 (allS (Or.inr sz12) (allS (Or.inr sz31) all0))
              show own_End p e below P (T174.setTop (mkF m 198 #[.val (.int p0), .val (.int p1), .val (.int p2), .val (.int p3), .val (.int p4), .val (.long q5), .second, .val (.int v2), .val (.int v5), .val (.int v8), .val (.ref a10), .val (.ref a12), .val (.ref a19), .val (.ref a31), .val (.ref b48), .val (.ref b61), .val (.int (1 : Int32)), .val (.int (own_freq (own_mkl p1) (own_mkl p0) (own_mkl v5) (own_mkl v2) p2 v8 s_String_COMPACT_STRINGS)), .val (.int (own_freq (own_mkl v5) (own_mkl v2) (own_mkl p1) (own_mkl p0) v8 p2 s_String_COMPACT_STRINGS)), .val (.int (1 : Int32)), .val (.int (0 : Int32)), .val (.int (0 : Int32)), .unset] [(.int (((((own_fhl (own_mkl v2)) * (31 : Int32)) + (own_fhl (own_mkl v5))) * (31 : Int32)) + v8)), (.int (((((own_fhl (own_mkl p0)) * (31 : Int32)) + (own_fhl (own_mkl p1))) * (31 : Int32)) + p2))]))
              have hd192 : (((((own_fhl (own_mkl p0)) * (31 : Int32)) + (own_fhl (own_mkl p1))) * (31 : Int32)) + p2) = (((((own_fhl (own_mkl v2)) * (31 : Int32)) + (own_fhl (own_mkl v5))) * (31 : Int32)) + v8) := by exact own_d5 (by assumption) (by assumption) (by assumption)
              refine own_st (fun _ => XS.icmpNo X174.here hx rfl (hb hby at_198) rfl (teq hd192).2) ?_
              show own_End p e below P (T174.setTop (mkF m 201 #[.val (.int p0), .val (.int p1), .val (.int p2), .val (.int p3), .val (.int p4), .val (.long q5), .second, .val (.int v2), .val (.int v5), .val (.int v8), .val (.ref a10), .val (.ref a12), .val (.ref a19), .val (.ref a31), .val (.ref b48), .val (.ref b61), .val (.int (1 : Int32)), .val (.int (own_freq (own_mkl p1) (own_mkl p0) (own_mkl v5) (own_mkl v2) p2 v8 s_String_COMPACT_STRINGS)), .val (.int (own_freq (own_mkl v5) (own_mkl v2) (own_mkl p1) (own_mkl p0) v8 p2 s_String_COMPACT_STRINGS)), .val (.int (1 : Int32)), .val (.int (0 : Int32)), .val (.int (0 : Int32)), .unset] []))
              refine own_st (fun _ => XS.iconst X174.here hx rfl (hb hby at_201)) ?_
              show own_End p e below P (T174.setTop (mkF m 202 #[.val (.int p0), .val (.int p1), .val (.int p2), .val (.int p3), .val (.int p4), .val (.long q5), .second, .val (.int v2), .val (.int v5), .val (.int v8), .val (.ref a10), .val (.ref a12), .val (.ref a19), .val (.ref a31), .val (.ref b48), .val (.ref b61), .val (.int (1 : Int32)), .val (.int (own_freq (own_mkl p1) (own_mkl p0) (own_mkl v5) (own_mkl v2) p2 v8 s_String_COMPACT_STRINGS)), .val (.int (own_freq (own_mkl v5) (own_mkl v2) (own_mkl p1) (own_mkl p0) v8 p2 s_String_COMPACT_STRINGS)), .val (.int (1 : Int32)), .val (.int (0 : Int32)), .val (.int (0 : Int32)), .unset] [(.int (1 : Int32))]))
              refine own_st (fun _ => XS.goto X174.here hx rfl (pc0 := 202) (pc' := 206) rfl (hb hby at_202) (by decide) (by decide)) ?_
              show own_End p e below P (T174.setTop (mkF m 206 #[.val (.int p0), .val (.int p1), .val (.int p2), .val (.int p3), .val (.int p4), .val (.long q5), .second, .val (.int v2), .val (.int v5), .val (.int v8), .val (.ref a10), .val (.ref a12), .val (.ref a19), .val (.ref a31), .val (.ref b48), .val (.ref b61), .val (.int (1 : Int32)), .val (.int (own_freq (own_mkl p1) (own_mkl p0) (own_mkl v5) (own_mkl v2) p2 v8 s_String_COMPACT_STRINGS)), .val (.int (own_freq (own_mkl v5) (own_mkl v2) (own_mkl p1) (own_mkl p0) v8 p2 s_String_COMPACT_STRINGS)), .val (.int (1 : Int32)), .val (.int (0 : Int32)), .val (.int (0 : Int32)), .unset] [(.int (1 : Int32))]))
              refine own_st (fun _ => XS.istore X174.here hx rfl (hb hby at_206) rfl (l' := #[.val (.int p0), .val (.int p1), .val (.int p2), .val (.int p3), .val (.int p4), .val (.long q5), .second, .val (.int v2), .val (.int v5), .val (.int v8), .val (.ref a10), .val (.ref a12), .val (.ref a19), .val (.ref a31), .val (.ref b48), .val (.ref b61), .val (.int (1 : Int32)), .val (.int (own_freq (own_mkl p1) (own_mkl p0) (own_mkl v5) (own_mkl v2) p2 v8 s_String_COMPACT_STRINGS)), .val (.int (own_freq (own_mkl v5) (own_mkl v2) (own_mkl p1) (own_mkl p0) v8 p2 s_String_COMPACT_STRINGS)), .val (.int (1 : Int32)), .val (.int (0 : Int32)), .val (.int (0 : Int32)), .val (.int (1 : Int32))]) rfl) ?_
              show own_End p e below P (T174.setTop (mkF m 208 #[.val (.int p0), .val (.int p1), .val (.int p2), .val (.int p3), .val (.int p4), .val (.long q5), .second, .val (.int v2), .val (.int v5), .val (.int v8), .val (.ref a10), .val (.ref a12), .val (.ref a19), .val (.ref a31), .val (.ref b48), .val (.ref b61), .val (.int (1 : Int32)), .val (.int (own_freq (own_mkl p1) (own_mkl p0) (own_mkl v5) (own_mkl v2) p2 v8 s_String_COMPACT_STRINGS)), .val (.int (own_freq (own_mkl v5) (own_mkl v2) (own_mkl p1) (own_mkl p0) v8 p2 s_String_COMPACT_STRINGS)), .val (.int (1 : Int32)), .val (.int (0 : Int32)), .val (.int (0 : Int32)), .val (.int (1 : Int32))] []))
              refine own_st (fun _ => XS.iload X174.here hx rfl (hb hby at_208) rfl) ?_
              show own_End p e below P (T174.setTop (mkF m 210 #[.val (.int p0), .val (.int p1), .val (.int p2), .val (.int p3), .val (.int p4), .val (.long q5), .second, .val (.int v2), .val (.int v5), .val (.int v8), .val (.ref a10), .val (.ref a12), .val (.ref a19), .val (.ref a31), .val (.ref b48), .val (.ref b61), .val (.int (1 : Int32)), .val (.int (own_freq (own_mkl p1) (own_mkl p0) (own_mkl v5) (own_mkl v2) p2 v8 s_String_COMPACT_STRINGS)), .val (.int (own_freq (own_mkl v5) (own_mkl v2) (own_mkl p1) (own_mkl p0) v8 p2 s_String_COMPACT_STRINGS)), .val (.int (1 : Int32)), .val (.int (0 : Int32)), .val (.int (0 : Int32)), .val (.int (1 : Int32))] [(.int (own_freq (own_mkl p1) (own_mkl p0) (own_mkl v5) (own_mkl v2) p2 v8 s_String_COMPACT_STRINGS))]))
              refine own_st (fun _ => XS.iload X174.here hx rfl (hb hby at_210) rfl) ?_
              show own_End p e below P (T174.setTop (mkF m 212 #[.val (.int p0), .val (.int p1), .val (.int p2), .val (.int p3), .val (.int p4), .val (.long q5), .second, .val (.int v2), .val (.int v5), .val (.int v8), .val (.ref a10), .val (.ref a12), .val (.ref a19), .val (.ref a31), .val (.ref b48), .val (.ref b61), .val (.int (1 : Int32)), .val (.int (own_freq (own_mkl p1) (own_mkl p0) (own_mkl v5) (own_mkl v2) p2 v8 s_String_COMPACT_STRINGS)), .val (.int (own_freq (own_mkl v5) (own_mkl v2) (own_mkl p1) (own_mkl p0) v8 p2 s_String_COMPACT_STRINGS)), .val (.int (1 : Int32)), .val (.int (0 : Int32)), .val (.int (0 : Int32)), .val (.int (1 : Int32))] [(.int (1 : Int32)), (.int (own_freq (own_mkl p1) (own_mkl p0) (own_mkl v5) (own_mkl v2) p2 v8 s_String_COMPACT_STRINGS))]))
              have hd193 : (own_freq (own_mkl p1) (own_mkl p0) (own_mkl v5) (own_mkl v2) p2 v8 s_String_COMPACT_STRINGS) = (1 : Int32) := by first | exact own_d1 (by assumption) | exact own_d1' (by assumption) | exact own_d2 (by assumption) | exact own_d2' (by assumption) | exact own_d3 (by assumption) | exact own_d3' (by assumption) | exact own_d4 (by assumption) (by assumption) (by assumption) | exact own_d4' (by assumption) (by assumption) (by assumption)
              refine own_st (fun _ => XS.icmpNo X174.here hx rfl (hb hby at_212) rfl (teq hd193).2) ?_
              show own_End p e below P (T174.setTop (mkF m 215 #[.val (.int p0), .val (.int p1), .val (.int p2), .val (.int p3), .val (.int p4), .val (.long q5), .second, .val (.int v2), .val (.int v5), .val (.int v8), .val (.ref a10), .val (.ref a12), .val (.ref a19), .val (.ref a31), .val (.ref b48), .val (.ref b61), .val (.int (1 : Int32)), .val (.int (own_freq (own_mkl p1) (own_mkl p0) (own_mkl v5) (own_mkl v2) p2 v8 s_String_COMPACT_STRINGS)), .val (.int (own_freq (own_mkl v5) (own_mkl v2) (own_mkl p1) (own_mkl p0) v8 p2 s_String_COMPACT_STRINGS)), .val (.int (1 : Int32)), .val (.int (0 : Int32)), .val (.int (0 : Int32)), .val (.int (1 : Int32))] []))
              refine own_st (fun _ => XS.iload X174.here hx rfl (hb hby at_215) rfl) ?_
              show own_End p e below P (T174.setTop (mkF m 217 #[.val (.int p0), .val (.int p1), .val (.int p2), .val (.int p3), .val (.int p4), .val (.long q5), .second, .val (.int v2), .val (.int v5), .val (.int v8), .val (.ref a10), .val (.ref a12), .val (.ref a19), .val (.ref a31), .val (.ref b48), .val (.ref b61), .val (.int (1 : Int32)), .val (.int (own_freq (own_mkl p1) (own_mkl p0) (own_mkl v5) (own_mkl v2) p2 v8 s_String_COMPACT_STRINGS)), .val (.int (own_freq (own_mkl v5) (own_mkl v2) (own_mkl p1) (own_mkl p0) v8 p2 s_String_COMPACT_STRINGS)), .val (.int (1 : Int32)), .val (.int (0 : Int32)), .val (.int (0 : Int32)), .val (.int (1 : Int32))] [(.int (own_freq (own_mkl v5) (own_mkl v2) (own_mkl p1) (own_mkl p0) v8 p2 s_String_COMPACT_STRINGS))]))
              refine own_st (fun _ => XS.iload X174.here hx rfl (hb hby at_217) rfl) ?_
              show own_End p e below P (T174.setTop (mkF m 219 #[.val (.int p0), .val (.int p1), .val (.int p2), .val (.int p3), .val (.int p4), .val (.long q5), .second, .val (.int v2), .val (.int v5), .val (.int v8), .val (.ref a10), .val (.ref a12), .val (.ref a19), .val (.ref a31), .val (.ref b48), .val (.ref b61), .val (.int (1 : Int32)), .val (.int (own_freq (own_mkl p1) (own_mkl p0) (own_mkl v5) (own_mkl v2) p2 v8 s_String_COMPACT_STRINGS)), .val (.int (own_freq (own_mkl v5) (own_mkl v2) (own_mkl p1) (own_mkl p0) v8 p2 s_String_COMPACT_STRINGS)), .val (.int (1 : Int32)), .val (.int (0 : Int32)), .val (.int (0 : Int32)), .val (.int (1 : Int32))] [(.int (1 : Int32)), (.int (own_freq (own_mkl v5) (own_mkl v2) (own_mkl p1) (own_mkl p0) v8 p2 s_String_COMPACT_STRINGS))]))
              have hd194 : (own_freq (own_mkl v5) (own_mkl v2) (own_mkl p1) (own_mkl p0) v8 p2 s_String_COMPACT_STRINGS) = (1 : Int32) := by first | exact own_d1 (by assumption) | exact own_d1' (by assumption) | exact own_d2 (by assumption) | exact own_d2' (by assumption) | exact own_d3 (by assumption) | exact own_d3' (by assumption) | exact own_d4 (by assumption) (by assumption) (by assumption) | exact own_d4' (by assumption) (by assumption) (by assumption)
              refine own_st (fun _ => XS.icmpNo X174.here hx rfl (hb hby at_219) rfl (teq hd194).2) ?_
              show own_End p e below P (T174.setTop (mkF m 222 #[.val (.int p0), .val (.int p1), .val (.int p2), .val (.int p3), .val (.int p4), .val (.long q5), .second, .val (.int v2), .val (.int v5), .val (.int v8), .val (.ref a10), .val (.ref a12), .val (.ref a19), .val (.ref a31), .val (.ref b48), .val (.ref b61), .val (.int (1 : Int32)), .val (.int (own_freq (own_mkl p1) (own_mkl p0) (own_mkl v5) (own_mkl v2) p2 v8 s_String_COMPACT_STRINGS)), .val (.int (own_freq (own_mkl v5) (own_mkl v2) (own_mkl p1) (own_mkl p0) v8 p2 s_String_COMPACT_STRINGS)), .val (.int (1 : Int32)), .val (.int (0 : Int32)), .val (.int (0 : Int32)), .val (.int (1 : Int32))] []))
              refine own_st (fun _ => XS.iload X174.here hx rfl (hb hby at_222) rfl) ?_
              show own_End p e below P (T174.setTop (mkF m 224 #[.val (.int p0), .val (.int p1), .val (.int p2), .val (.int p3), .val (.int p4), .val (.long q5), .second, .val (.int v2), .val (.int v5), .val (.int v8), .val (.ref a10), .val (.ref a12), .val (.ref a19), .val (.ref a31), .val (.ref b48), .val (.ref b61), .val (.int (1 : Int32)), .val (.int (own_freq (own_mkl p1) (own_mkl p0) (own_mkl v5) (own_mkl v2) p2 v8 s_String_COMPACT_STRINGS)), .val (.int (own_freq (own_mkl v5) (own_mkl v2) (own_mkl p1) (own_mkl p0) v8 p2 s_String_COMPACT_STRINGS)), .val (.int (1 : Int32)), .val (.int (0 : Int32)), .val (.int (0 : Int32)), .val (.int (1 : Int32))] [(.int (1 : Int32))]))
              refine own_st (fun _ => XS.ifNo X174.here hx rfl (hb hby at_224) rfl ((if0 _ _).trans (feq (by decide : ¬ ((1 : Int32) = (0 : Int32)))).1)) ?_
              show own_End p e below P (T174.setTop (mkF m 227 #[.val (.int p0), .val (.int p1), .val (.int p2), .val (.int p3), .val (.int p4), .val (.long q5), .second, .val (.int v2), .val (.int v5), .val (.int v8), .val (.ref a10), .val (.ref a12), .val (.ref a19), .val (.ref a31), .val (.ref b48), .val (.ref b61), .val (.int (1 : Int32)), .val (.int (own_freq (own_mkl p1) (own_mkl p0) (own_mkl v5) (own_mkl v2) p2 v8 s_String_COMPACT_STRINGS)), .val (.int (own_freq (own_mkl v5) (own_mkl v2) (own_mkl p1) (own_mkl p0) v8 p2 s_String_COMPACT_STRINGS)), .val (.int (1 : Int32)), .val (.int (0 : Int32)), .val (.int (0 : Int32)), .val (.int (1 : Int32))] []))
              refine own_st (fun _ => XS.iload X174.here hx rfl (hb hby at_227) rfl) ?_
              show own_End p e below P (T174.setTop (mkF m 229 #[.val (.int p0), .val (.int p1), .val (.int p2), .val (.int p3), .val (.int p4), .val (.long q5), .second, .val (.int v2), .val (.int v5), .val (.int v8), .val (.ref a10), .val (.ref a12), .val (.ref a19), .val (.ref a31), .val (.ref b48), .val (.ref b61), .val (.int (1 : Int32)), .val (.int (own_freq (own_mkl p1) (own_mkl p0) (own_mkl v5) (own_mkl v2) p2 v8 s_String_COMPACT_STRINGS)), .val (.int (own_freq (own_mkl v5) (own_mkl v2) (own_mkl p1) (own_mkl p0) v8 p2 s_String_COMPACT_STRINGS)), .val (.int (1 : Int32)), .val (.int (0 : Int32)), .val (.int (0 : Int32)), .val (.int (1 : Int32))] [(.int (0 : Int32))]))
              refine own_st (fun _ => XS.ifNo X174.here hx rfl (hb hby at_229) rfl ((if0 _ _).trans (teq (by decide : (0 : Int32) = (0 : Int32))).2)) ?_
              show own_End p e below P (T174.setTop (mkF m 232 #[.val (.int p0), .val (.int p1), .val (.int p2), .val (.int p3), .val (.int p4), .val (.long q5), .second, .val (.int v2), .val (.int v5), .val (.int v8), .val (.ref a10), .val (.ref a12), .val (.ref a19), .val (.ref a31), .val (.ref b48), .val (.ref b61), .val (.int (1 : Int32)), .val (.int (own_freq (own_mkl p1) (own_mkl p0) (own_mkl v5) (own_mkl v2) p2 v8 s_String_COMPACT_STRINGS)), .val (.int (own_freq (own_mkl v5) (own_mkl v2) (own_mkl p1) (own_mkl p0) v8 p2 s_String_COMPACT_STRINGS)), .val (.int (1 : Int32)), .val (.int (0 : Int32)), .val (.int (0 : Int32)), .val (.int (1 : Int32))] []))
              refine own_st (fun _ => XS.iload X174.here hx rfl (hb hby at_232) rfl) ?_
              show own_End p e below P (T174.setTop (mkF m 234 #[.val (.int p0), .val (.int p1), .val (.int p2), .val (.int p3), .val (.int p4), .val (.long q5), .second, .val (.int v2), .val (.int v5), .val (.int v8), .val (.ref a10), .val (.ref a12), .val (.ref a19), .val (.ref a31), .val (.ref b48), .val (.ref b61), .val (.int (1 : Int32)), .val (.int (own_freq (own_mkl p1) (own_mkl p0) (own_mkl v5) (own_mkl v2) p2 v8 s_String_COMPACT_STRINGS)), .val (.int (own_freq (own_mkl v5) (own_mkl v2) (own_mkl p1) (own_mkl p0) v8 p2 s_String_COMPACT_STRINGS)), .val (.int (1 : Int32)), .val (.int (0 : Int32)), .val (.int (0 : Int32)), .val (.int (1 : Int32))] [(.int (0 : Int32))]))
              refine own_st (fun _ => XS.ifNo X174.here hx rfl (hb hby at_234) rfl ((if0 _ _).trans (teq (by decide : (0 : Int32) = (0 : Int32))).2)) ?_
              show own_End p e below P (T174.setTop (mkF m 237 #[.val (.int p0), .val (.int p1), .val (.int p2), .val (.int p3), .val (.int p4), .val (.long q5), .second, .val (.int v2), .val (.int v5), .val (.int v8), .val (.ref a10), .val (.ref a12), .val (.ref a19), .val (.ref a31), .val (.ref b48), .val (.ref b61), .val (.int (1 : Int32)), .val (.int (own_freq (own_mkl p1) (own_mkl p0) (own_mkl v5) (own_mkl v2) p2 v8 s_String_COMPACT_STRINGS)), .val (.int (own_freq (own_mkl v5) (own_mkl v2) (own_mkl p1) (own_mkl p0) v8 p2 s_String_COMPACT_STRINGS)), .val (.int (1 : Int32)), .val (.int (0 : Int32)), .val (.int (0 : Int32)), .val (.int (1 : Int32))] []))
              refine own_st (fun _ => XS.iload X174.here hx rfl (hb hby at_237) rfl) ?_
              show own_End p e below P (T174.setTop (mkF m 239 #[.val (.int p0), .val (.int p1), .val (.int p2), .val (.int p3), .val (.int p4), .val (.long q5), .second, .val (.int v2), .val (.int v5), .val (.int v8), .val (.ref a10), .val (.ref a12), .val (.ref a19), .val (.ref a31), .val (.ref b48), .val (.ref b61), .val (.int (1 : Int32)), .val (.int (own_freq (own_mkl p1) (own_mkl p0) (own_mkl v5) (own_mkl v2) p2 v8 s_String_COMPACT_STRINGS)), .val (.int (own_freq (own_mkl v5) (own_mkl v2) (own_mkl p1) (own_mkl p0) v8 p2 s_String_COMPACT_STRINGS)), .val (.int (1 : Int32)), .val (.int (0 : Int32)), .val (.int (0 : Int32)), .val (.int (1 : Int32))] [(.int (1 : Int32))]))
              refine own_st (fun _ => XS.ifNo X174.here hx rfl (hb hby at_239) rfl ((if0 _ _).trans (feq (by decide : ¬ ((1 : Int32) = (0 : Int32)))).1)) ?_
              show own_End p e below P (T174.setTop (mkF m 242 #[.val (.int p0), .val (.int p1), .val (.int p2), .val (.int p3), .val (.int p4), .val (.long q5), .second, .val (.int v2), .val (.int v5), .val (.int v8), .val (.ref a10), .val (.ref a12), .val (.ref a19), .val (.ref a31), .val (.ref b48), .val (.ref b61), .val (.int (1 : Int32)), .val (.int (own_freq (own_mkl p1) (own_mkl p0) (own_mkl v5) (own_mkl v2) p2 v8 s_String_COMPACT_STRINGS)), .val (.int (own_freq (own_mkl v5) (own_mkl v2) (own_mkl p1) (own_mkl p0) v8 p2 s_String_COMPACT_STRINGS)), .val (.int (1 : Int32)), .val (.int (0 : Int32)), .val (.int (0 : Int32)), .val (.int (1 : Int32))] []))
              refine own_st (fun _ => XS.iconst X174.here hx rfl (hb hby at_242)) ?_
              show own_End p e below P (T174.setTop (mkF m 243 #[.val (.int p0), .val (.int p1), .val (.int p2), .val (.int p3), .val (.int p4), .val (.long q5), .second, .val (.int v2), .val (.int v5), .val (.int v8), .val (.ref a10), .val (.ref a12), .val (.ref a19), .val (.ref a31), .val (.ref b48), .val (.ref b61), .val (.int (1 : Int32)), .val (.int (own_freq (own_mkl p1) (own_mkl p0) (own_mkl v5) (own_mkl v2) p2 v8 s_String_COMPACT_STRINGS)), .val (.int (own_freq (own_mkl v5) (own_mkl v2) (own_mkl p1) (own_mkl p0) v8 p2 s_String_COMPACT_STRINGS)), .val (.int (1 : Int32)), .val (.int (0 : Int32)), .val (.int (0 : Int32)), .val (.int (1 : Int32))] [(.int (1 : Int32))]))
              refine own_st (fun _ => XS.goto X174.here hx rfl (pc0 := 243) (pc' := 247) rfl (hb hby at_243) (by decide) (by decide)) ?_
              show own_End p e below P (T174.setTop (mkF m 247 #[.val (.int p0), .val (.int p1), .val (.int p2), .val (.int p3), .val (.int p4), .val (.long q5), .second, .val (.int v2), .val (.int v5), .val (.int v8), .val (.ref a10), .val (.ref a12), .val (.ref a19), .val (.ref a31), .val (.ref b48), .val (.ref b61), .val (.int (1 : Int32)), .val (.int (own_freq (own_mkl p1) (own_mkl p0) (own_mkl v5) (own_mkl v2) p2 v8 s_String_COMPACT_STRINGS)), .val (.int (own_freq (own_mkl v5) (own_mkl v2) (own_mkl p1) (own_mkl p0) v8 p2 s_String_COMPACT_STRINGS)), .val (.int (1 : Int32)), .val (.int (0 : Int32)), .val (.int (0 : Int32)), .val (.int (1 : Int32))] [(.int (1 : Int32))]))
              have G195 := (Nat.le_trans (Nat.le_trans (Nat.le_trans (Nat.le_trans (Nat.le_trans (Nat.le_trans hk31 E48.1) Kq60.1) E61.1) Kq79.1) Kq169.1) Kq174.1)
              exact own_retNW X174 hS G195 rfl hx hlk hP (t := .boolean) (by simp) hrt (hb hby at_247) (by decide) (by decide) ⟨rfl, N174⟩
            · refine own_st (fun _ => XS.icmpYes X111.here hx rfl (pc0 := 129) (pc' := 136) rfl (hb hby at_129) rfl (feq hc142).2 (by decide) (by decide)) ?_
              show own_End p e below P (T111.setTop (mkF m 136 #[.val (.int p0), .val (.int p1), .val (.int p2), .val (.int p3), .val (.int p4), .val (.long q5), .second, .val (.int v2), .val (.int v5), .val (.int v8), .val (.ref a10), .val (.ref a12), .val (.ref a19), .val (.ref a31), .val (.ref b48), .val (.ref b61), .unset, .unset, .unset, .unset, .unset, .unset, .unset] []))
              refine own_st (fun _ => XS.iconst X111.here hx rfl (hb hby at_136)) ?_
              show own_End p e below P (T111.setTop (mkF m 137 #[.val (.int p0), .val (.int p1), .val (.int p2), .val (.int p3), .val (.int p4), .val (.long q5), .second, .val (.int v2), .val (.int v5), .val (.int v8), .val (.ref a10), .val (.ref a12), .val (.ref a19), .val (.ref a31), .val (.ref b48), .val (.ref b61), .unset, .unset, .unset, .unset, .unset, .unset, .unset] [(.int (0 : Int32))]))
              refine own_st (fun _ => XS.istore X111.here hx rfl (hb hby at_137) rfl (l' := #[.val (.int p0), .val (.int p1), .val (.int p2), .val (.int p3), .val (.int p4), .val (.long q5), .second, .val (.int v2), .val (.int v5), .val (.int v8), .val (.ref a10), .val (.ref a12), .val (.ref a19), .val (.ref a31), .val (.ref b48), .val (.ref b61), .val (.int (0 : Int32)), .unset, .unset, .unset, .unset, .unset, .unset]) rfl) ?_
              show own_End p e below P (T111.setTop (mkF m 139 #[.val (.int p0), .val (.int p1), .val (.int p2), .val (.int p3), .val (.int p4), .val (.long q5), .second, .val (.int v2), .val (.int v5), .val (.int v8), .val (.ref a10), .val (.ref a12), .val (.ref a19), .val (.ref a31), .val (.ref b48), .val (.ref b61), .val (.int (0 : Int32)), .unset, .unset, .unset, .unset, .unset, .unset] []))
              refine own_st (fun _ => XS.aload X111.here hx rfl (hb hby at_139) rfl rfl) ?_
              show own_End p e below P (T111.setTop (mkF m 141 #[.val (.int p0), .val (.int p1), .val (.int p2), .val (.int p3), .val (.int p4), .val (.long q5), .second, .val (.int v2), .val (.int v5), .val (.int v8), .val (.ref a10), .val (.ref a12), .val (.ref a19), .val (.ref a31), .val (.ref b48), .val (.ref b61), .val (.int (0 : Int32)), .unset, .unset, .unset, .unset, .unset, .unset] [(.ref b48)]))
              refine own_st (fun _ => XS.aload X111.here hx rfl (hb hby at_141) rfl rfl) ?_
              show own_End p e below P (T111.setTop (mkF m 143 #[.val (.int p0), .val (.int p1), .val (.int p2), .val (.int p3), .val (.int p4), .val (.long q5), .second, .val (.int v2), .val (.int v5), .val (.int v8), .val (.ref a10), .val (.ref a12), .val (.ref a19), .val (.ref a31), .val (.ref b48), .val (.ref b61), .val (.int (0 : Int32)), .unset, .unset, .unset, .unset, .unset, .unset] [(.ref b61), (.ref b48)]))
              have G197 := ((f0_60.ext E61).keep Kq79)
              have G198 := ((G67.ext E61).keep Kq79)
              have G199 := ((G63.ext E61).keep Kq79)
              have G200 := ((G69.ext E61).keep Kq79)
              have G201 := ((G65.ext E61).keep Kq79)
              have G202 := ((f3_60.ext E61).keep Kq79 (ninS ne70 nin0))
              have G203 := ((f2_60.ext E61).keep Kq79 (ninS ne70 nin0))
              have G204 := ((f1_60.ext E61).keep Kq79 (ninS ne70 nin0))
              have G205 := (((((fv19.keep Kq31 nin0).ext E48).keep Kq60 (ninS ne51 nin0)).ext E61).keep Kq79 (ninS ne66 nin0))
              have G206 := (((((fc19.keep Kq31 nin0).ext E48).keep Kq60 (ninS ne51 nin0)).ext E61).keep Kq79 (ninS ne66 nin0))
              have G207 := (((((((fv10.keep Kq12 nin0).keep Kq19 nin0).keep Kq31 nin0).ext E48).keep Kq60 (ninS ne49 nin0)).ext E61).keep Kq79 (ninS ne62 nin0))
              have G208 := (((((((fc10.keep Kq12 nin0).keep Kq19 nin0).keep Kq31 nin0).ext E48).keep Kq60 (ninS ne49 nin0)).ext E61).keep Kq79 (ninS ne62 nin0))
              have G209 := ((((fv31.ext E48).keep Kq60 (ninS ne52 nin0)).ext E61).keep Kq79 (ninS ne68 nin0))
              have G210 := ((((fc31.ext E48).keep Kq60 (ninS ne52 nin0)).ext E61).keep Kq79 (ninS ne68 nin0))
              have G211 := ((((((fv12.keep Kq19 nin0).keep Kq31 nin0).ext E48).keep Kq60 (ninS ne50 nin0)).ext E61).keep Kq79 (ninS ne64 nin0))
              have G212 := ((((((fc12.keep Kq19 nin0).keep Kq31 nin0).ext E48).keep Kq60 (ninS ne50 nin0)).ext E61).keep Kq79 (ninS ne64 nin0))
              have G213 := (own_StaKeep ((own_StaKeep ((own_StaKeep G32 Kq31 all0).ext E48) Kq60 (allS (own_nst A48) all0)).ext E61) Kq79 (allS (own_nst A61) all0))
              have G214 := ((G76.ext E61).keep Kq79 (ninS ne75 nin0))
              have G215 := ((G72.ext E61).keep Kq79 (ninS ne71 nin0))
              have G216 := ((G78.ext E61).keep Kq79 (ninS ne77 nin0))
              have G217 := ((G74.ext E61).keep Kq79 (ninS ne73 nin0))
              refine own_callV X111 hx hZ (y := (⟨"com/example/holdfast/holdfast/internal/Route", "equals", "(Ljava/lang/Object;)Z"⟩ : MethodName)) (z := (⟨"com/example/holdfast/holdfast/internal/Route", "equals", "(Ljava/lang/Object;)Z"⟩ : MethodName)) hown (hw _ (List.mem_of_getElem? (i := 58) rfl)) (hw _ (List.mem_of_getElem? (i := 59) rfl)) (notFace_of_selects (args := #[]) (mvT hZ (hw _ (List.mem_of_getElem? (i := 61) rfl)))) (hw _ (List.mem_of_getElem? (i := 61) rfl)) (hw _ (List.mem_of_getElem? (i := 60) rfl)) (hw _ (List.mem_of_getElem? (i := 39) rfl)) (hw _ (List.mem_of_getElem? (i := 62) rfl)) (by decide) G197 (own_mreq l Z a0 hw [] b48 b61 (own_mkl p1) (own_mkl p0) (own_mkl v5) (own_mkl v2) p2 a19 a10 v8 a31 a12 v19 v10 v31 v12 s_String_COMPACT_STRINGS T79.heap n0 (Nat.le_trans Z0 K79.1) G197 f0_79 G198 G199 G200 G201 G202 G203 G204 f3_79 f2_79 f1_79 G205 G206 G207 G208 G209 G210 G211 G212 G213 G214 G215 G216 G217 ne35 ne14 hnz (own_mkl_len _) (own_mkl_len _) (own_mkl_len _) (own_mkl_len _)) 0 (by decide) (by decide) eq111 (by decide) (by decide) (g := (mkF m 143 #[.val (.int p0), .val (.int p1), .val (.int p2), .val (.int p3), .val (.int p4), .val (.long q5), .second, .val (.int v2), .val (.int v5), .val (.int v8), .val (.ref a10), .val (.ref a12), .val (.ref a19), .val (.ref a31), .val (.ref b48), .val (.ref b61), .val (.int (0 : Int32)), .unset, .unset, .unset, .unset, .unset, .unset] [(.ref b61), (.ref b48)])) rfl (by rw [hml']; rfl) (argsL := [(.ref b61)]) (rest := []) rfl (lenOf own_pd_Ljava_lang_Object__Z_838 rfl) rfl (by show 2 * 0 + _ ≤ _; exact Nat.le_of_eq rfl) (hb hby at_143) (fun r196 T196 L196 X196 hQ196 => ?_)
              obtain ⟨rfl, Nq196, eq196⟩ := hQ196
              have N196 := Fr.app N111 Nq196
              show own_End p e below P (T196.setTop (mkF m 146 #[.val (.int p0), .val (.int p1), .val (.int p2), .val (.int p3), .val (.int p4), .val (.long q5), .second, .val (.int v2), .val (.int v5), .val (.int v8), .val (.ref a10), .val (.ref a12), .val (.ref a19), .val (.ref a31), .val (.ref b48), .val (.ref b61), .val (.int (0 : Int32)), .unset, .unset, .unset, .unset, .unset, .unset] [(.int (own_freq (own_mkl p1) (own_mkl p0) (own_mkl v5) (own_mkl v2) p2 v8 s_String_COMPACT_STRINGS))]))
              refine own_st (fun _ => XS.istore X196.here hx rfl (hb hby at_146) rfl (l' := #[.val (.int p0), .val (.int p1), .val (.int p2), .val (.int p3), .val (.int p4), .val (.long q5), .second, .val (.int v2), .val (.int v5), .val (.int v8), .val (.ref a10), .val (.ref a12), .val (.ref a19), .val (.ref a31), .val (.ref b48), .val (.ref b61), .val (.int (0 : Int32)), .val (.int (own_freq (own_mkl p1) (own_mkl p0) (own_mkl v5) (own_mkl v2) p2 v8 s_String_COMPACT_STRINGS)), .unset, .unset, .unset, .unset, .unset]) rfl) ?_
              show own_End p e below P (T196.setTop (mkF m 148 #[.val (.int p0), .val (.int p1), .val (.int p2), .val (.int p3), .val (.int p4), .val (.long q5), .second, .val (.int v2), .val (.int v5), .val (.int v8), .val (.ref a10), .val (.ref a12), .val (.ref a19), .val (.ref a31), .val (.ref b48), .val (.ref b61), .val (.int (0 : Int32)), .val (.int (own_freq (own_mkl p1) (own_mkl p0) (own_mkl v5) (own_mkl v2) p2 v8 s_String_COMPACT_STRINGS)), .unset, .unset, .unset, .unset, .unset] []))
              refine own_st (fun _ => XS.aload X196.here hx rfl (hb hby at_148) rfl rfl) ?_
              show own_End p e below P (T196.setTop (mkF m 150 #[.val (.int p0), .val (.int p1), .val (.int p2), .val (.int p3), .val (.int p4), .val (.long q5), .second, .val (.int v2), .val (.int v5), .val (.int v8), .val (.ref a10), .val (.ref a12), .val (.ref a19), .val (.ref a31), .val (.ref b48), .val (.ref b61), .val (.int (0 : Int32)), .val (.int (own_freq (own_mkl p1) (own_mkl p0) (own_mkl v5) (own_mkl v2) p2 v8 s_String_COMPACT_STRINGS)), .unset, .unset, .unset, .unset, .unset] [(.ref b61)]))
              refine own_st (fun _ => XS.aload X196.here hx rfl (hb hby at_150) rfl rfl) ?_
              show own_End p e below P (T196.setTop (mkF m 152 #[.val (.int p0), .val (.int p1), .val (.int p2), .val (.int p3), .val (.int p4), .val (.long q5), .second, .val (.int v2), .val (.int v5), .val (.int v8), .val (.ref a10), .val (.ref a12), .val (.ref a19), .val (.ref a31), .val (.ref b48), .val (.ref b61), .val (.int (0 : Int32)), .val (.int (own_freq (own_mkl p1) (own_mkl p0) (own_mkl v5) (own_mkl v2) p2 v8 s_String_COMPACT_STRINGS)), .unset, .unset, .unset, .unset, .unset] [(.ref b48), (.ref b61)]))
              refine own_callV X196 hx hZ (y := (⟨"com/example/holdfast/holdfast/internal/Route", "equals", "(Ljava/lang/Object;)Z"⟩ : MethodName)) (z := (⟨"com/example/holdfast/holdfast/internal/Route", "equals", "(Ljava/lang/Object;)Z"⟩ : MethodName)) hown (hw _ (List.mem_of_getElem? (i := 58) rfl)) (hw _ (List.mem_of_getElem? (i := 59) rfl)) (notFace_of_selects (args := #[]) (mvT hZ (hw _ (List.mem_of_getElem? (i := 61) rfl)))) (hw _ (List.mem_of_getElem? (i := 61) rfl)) (hw _ (List.mem_of_getElem? (i := 60) rfl)) (hw _ (List.mem_of_getElem? (i := 39) rfl)) (hw _ (List.mem_of_getElem? (i := 62) rfl)) (by decide) f0_79 (own_mreq l Z a0 hw [] b61 b48 (own_mkl v5) (own_mkl v2) (own_mkl p1) (own_mkl p0) v8 a31 a12 p2 a19 a10 v31 v12 v19 v10 s_String_COMPACT_STRINGS T79.heap n0 (Nat.le_trans Z0 K79.1) f0_79 G197 G200 G201 G198 G199 f3_79 f2_79 f1_79 G202 G203 G204 G209 G210 G211 G212 G205 G206 G207 G208 G213 G216 G217 G214 G215 (Ne.symm ne35) (Ne.symm ne14) hnz (own_mkl_len _) (own_mkl_len _) (own_mkl_len _) (own_mkl_len _)) 0 (by decide) (by decide) eq196 (by decide) (by decide) (g := (mkF m 152 #[.val (.int p0), .val (.int p1), .val (.int p2), .val (.int p3), .val (.int p4), .val (.long q5), .second, .val (.int v2), .val (.int v5), .val (.int v8), .val (.ref a10), .val (.ref a12), .val (.ref a19), .val (.ref a31), .val (.ref b48), .val (.ref b61), .val (.int (0 : Int32)), .val (.int (own_freq (own_mkl p1) (own_mkl p0) (own_mkl v5) (own_mkl v2) p2 v8 s_String_COMPACT_STRINGS)), .unset, .unset, .unset, .unset, .unset] [(.ref b48), (.ref b61)])) rfl (by rw [hml']; rfl) (argsL := [(.ref b48)]) (rest := []) rfl (lenOf own_pd_Ljava_lang_Object__Z_838 rfl) rfl (by show 2 * 0 + _ ≤ _; exact Nat.le_of_eq rfl) (hb hby at_152) (fun r218 T218 L218 X218 hQ218 => ?_)
              obtain ⟨rfl, Nq218, eq218⟩ := hQ218
              have N218 := Fr.app N196 Nq218
              show own_End p e below P (T218.setTop (mkF m 155 #[.val (.int p0), .val (.int p1), .val (.int p2), .val (.int p3), .val (.int p4), .val (.long q5), .second, .val (.int v2), .val (.int v5), .val (.int v8), .val (.ref a10), .val (.ref a12), .val (.ref a19), .val (.ref a31), .val (.ref b48), .val (.ref b61), .val (.int (0 : Int32)), .val (.int (own_freq (own_mkl p1) (own_mkl p0) (own_mkl v5) (own_mkl v2) p2 v8 s_String_COMPACT_STRINGS)), .unset, .unset, .unset, .unset, .unset] [(.int (own_freq (own_mkl v5) (own_mkl v2) (own_mkl p1) (own_mkl p0) v8 p2 s_String_COMPACT_STRINGS))]))
              refine own_st (fun _ => XS.istore X218.here hx rfl (hb hby at_155) rfl (l' := #[.val (.int p0), .val (.int p1), .val (.int p2), .val (.int p3), .val (.int p4), .val (.long q5), .second, .val (.int v2), .val (.int v5), .val (.int v8), .val (.ref a10), .val (.ref a12), .val (.ref a19), .val (.ref a31), .val (.ref b48), .val (.ref b61), .val (.int (0 : Int32)), .val (.int (own_freq (own_mkl p1) (own_mkl p0) (own_mkl v5) (own_mkl v2) p2 v8 s_String_COMPACT_STRINGS)), .val (.int (own_freq (own_mkl v5) (own_mkl v2) (own_mkl p1) (own_mkl p0) v8 p2 s_String_COMPACT_STRINGS)), .unset, .unset, .unset, .unset]) rfl) ?_
              show own_End p e below P (T218.setTop (mkF m 157 #[.val (.int p0), .val (.int p1), .val (.int p2), .val (.int p3), .val (.int p4), .val (.long q5), .second, .val (.int v2), .val (.int v5), .val (.int v8), .val (.ref a10), .val (.ref a12), .val (.ref a19), .val (.ref a31), .val (.ref b48), .val (.ref b61), .val (.int (0 : Int32)), .val (.int (own_freq (own_mkl p1) (own_mkl p0) (own_mkl v5) (own_mkl v2) p2 v8 s_String_COMPACT_STRINGS)), .val (.int (own_freq (own_mkl v5) (own_mkl v2) (own_mkl p1) (own_mkl p0) v8 p2 s_String_COMPACT_STRINGS)), .unset, .unset, .unset, .unset] []))
              refine own_st (fun _ => XS.aload X218.here hx rfl (hb hby at_157) rfl rfl) ?_
              show own_End p e below P (T218.setTop (mkF m 159 #[.val (.int p0), .val (.int p1), .val (.int p2), .val (.int p3), .val (.int p4), .val (.long q5), .second, .val (.int v2), .val (.int v5), .val (.int v8), .val (.ref a10), .val (.ref a12), .val (.ref a19), .val (.ref a31), .val (.ref b48), .val (.ref b61), .val (.int (0 : Int32)), .val (.int (own_freq (own_mkl p1) (own_mkl p0) (own_mkl v5) (own_mkl v2) p2 v8 s_String_COMPACT_STRINGS)), .val (.int (own_freq (own_mkl v5) (own_mkl v2) (own_mkl p1) (own_mkl p0) v8 p2 s_String_COMPACT_STRINGS)), .unset, .unset, .unset, .unset] [(.ref b48)]))
              refine own_st (fun _ => XS.aload X218.here hx rfl (hb hby at_159) rfl rfl) ?_
              show own_End p e below P (T218.setTop (mkF m 161 #[.val (.int p0), .val (.int p1), .val (.int p2), .val (.int p3), .val (.int p4), .val (.long q5), .second, .val (.int v2), .val (.int v5), .val (.int v8), .val (.ref a10), .val (.ref a12), .val (.ref a19), .val (.ref a31), .val (.ref b48), .val (.ref b61), .val (.int (0 : Int32)), .val (.int (own_freq (own_mkl p1) (own_mkl p0) (own_mkl v5) (own_mkl v2) p2 v8 s_String_COMPACT_STRINGS)), .val (.int (own_freq (own_mkl v5) (own_mkl v2) (own_mkl p1) (own_mkl p0) v8 p2 s_String_COMPACT_STRINGS)), .unset, .unset, .unset, .unset] [(.ref b48), (.ref b48)]))
              refine own_callV X218 hx hZ (y := (⟨"com/example/holdfast/holdfast/internal/Route", "equals", "(Ljava/lang/Object;)Z"⟩ : MethodName)) (z := (⟨"com/example/holdfast/holdfast/internal/Route", "equals", "(Ljava/lang/Object;)Z"⟩ : MethodName)) hown (hw _ (List.mem_of_getElem? (i := 58) rfl)) (hw _ (List.mem_of_getElem? (i := 59) rfl)) (notFace_of_selects (args := #[]) (mvT hZ (hw _ (List.mem_of_getElem? (i := 61) rfl)))) (hw _ (List.mem_of_getElem? (i := 61) rfl)) (hw _ (List.mem_of_getElem? (i := 60) rfl)) (hw _ (List.mem_of_getElem? (i := 39) rfl)) (hw _ (List.mem_of_getElem? (i := 62) rfl)) (by decide) G197 (own_mres l Z a0 hw [] b48 p2 a19 a10 T79.heap n0 (Nat.le_trans Z0 K79.1) G197 G198 G199 G202 G203 G204) 0 (by decide) (by decide) eq218 (by decide) (by decide) (g := (mkF m 161 #[.val (.int p0), .val (.int p1), .val (.int p2), .val (.int p3), .val (.int p4), .val (.long q5), .second, .val (.int v2), .val (.int v5), .val (.int v8), .val (.ref a10), .val (.ref a12), .val (.ref a19), .val (.ref a31), .val (.ref b48), .val (.ref b61), .val (.int (0 : Int32)), .val (.int (own_freq (own_mkl p1) (own_mkl p0) (own_mkl v5) (own_mkl v2) p2 v8 s_String_COMPACT_STRINGS)), .val (.int (own_freq (own_mkl v5) (own_mkl v2) (own_mkl p1) (own_mkl p0) v8 p2 s_String_COMPACT_STRINGS)), .unset, .unset, .unset, .unset] [(.ref b48), (.ref b48)])) rfl (by rw [hml']; rfl) (argsL := [(.ref b48)]) (rest := []) rfl (lenOf own_pd_Ljava_lang_Object__Z_838 rfl) rfl (by show 2 * 0 + _ ≤ _; exact Nat.le_of_eq rfl) (hb hby at_161) (fun r219 T219 L219 X219 hQ219 => ?_)
              obtain ⟨rfl, Nq219, eq219⟩ := hQ219
              have N219 := Fr.app N218 Nq219
              show own_End p e below P (T219.setTop (mkF m 164 #[.val (.int p0), .val (.int p1), .val (.int p2), .val (.int p3), .val (.int p4), .val (.long q5), .second, .val (.int v2), .val (.int v5), .val (.int v8), .val (.ref a10), .val (.ref a12), .val (.ref a19), .val (.ref a31), .val (.ref b48), .val (.ref b61), .val (.int (0 : Int32)), .val (.int (own_freq (own_mkl p1) (own_mkl p0) (own_mkl v5) (own_mkl v2) p2 v8 s_String_COMPACT_STRINGS)), .val (.int (own_freq (own_mkl v5) (own_mkl v2) (own_mkl p1) (own_mkl p0) v8 p2 s_String_COMPACT_STRINGS)), .unset, .unset, .unset, .unset] [(.int (1 : Int32))]))
              refine own_st (fun _ => XS.istore X219.here hx rfl (hb hby at_164) rfl (l' := #[.val (.int p0), .val (.int p1), .val (.int p2), .val (.int p3), .val (.int p4), .val (.long q5), .second, .val (.int v2), .val (.int v5), .val (.int v8), .val (.ref a10), .val (.ref a12), .val (.ref a19), .val (.ref a31), .val (.ref b48), .val (.ref b61), .val (.int (0 : Int32)), .val (.int (own_freq (own_mkl p1) (own_mkl p0) (own_mkl v5) (own_mkl v2) p2 v8 s_String_COMPACT_STRINGS)), .val (.int (own_freq (own_mkl v5) (own_mkl v2) (own_mkl p1) (own_mkl p0) v8 p2 s_String_COMPACT_STRINGS)), .val (.int (1 : Int32)), .unset, .unset, .unset]) rfl) ?_
              show own_End p e below P (T219.setTop (mkF m 166 #[.val (.int p0), .val (.int p1), .val (.int p2), .val (.int p3), .val (.int p4), .val (.long q5), .second, .val (.int v2), .val (.int v5), .val (.int v8), .val (.ref a10), .val (.ref a12), .val (.ref a19), .val (.ref a31), .val (.ref b48), .val (.ref b61), .val (.int (0 : Int32)), .val (.int (own_freq (own_mkl p1) (own_mkl p0) (own_mkl v5) (own_mkl v2) p2 v8 s_String_COMPACT_STRINGS)), .val (.int (own_freq (own_mkl v5) (own_mkl v2) (own_mkl p1) (own_mkl p0) v8 p2 s_String_COMPACT_STRINGS)), .val (.int (1 : Int32)), .unset, .unset, .unset] []))
              refine own_st (fun _ => XS.aload X219.here hx rfl (hb hby at_166) rfl rfl) ?_
              show own_End p e below P (T219.setTop (mkF m 168 #[.val (.int p0), .val (.int p1), .val (.int p2), .val (.int p3), .val (.int p4), .val (.long q5), .second, .val (.int v2), .val (.int v5), .val (.int v8), .val (.ref a10), .val (.ref a12), .val (.ref a19), .val (.ref a31), .val (.ref b48), .val (.ref b61), .val (.int (0 : Int32)), .val (.int (own_freq (own_mkl p1) (own_mkl p0) (own_mkl v5) (own_mkl v2) p2 v8 s_String_COMPACT_STRINGS)), .val (.int (own_freq (own_mkl v5) (own_mkl v2) (own_mkl p1) (own_mkl p0) v8 p2 s_String_COMPACT_STRINGS)), .val (.int (1 : Int32)), .unset, .unset, .unset] [(.ref b48)]))
              refine own_st (fun _ => XS.aload X219.here hx rfl (hb hby at_168) rfl rfl) ?_
              show own_End p e below P (T219.setTop (mkF m 170 #[.val (.int p0), .val (.int p1), .val (.int p2), .val (.int p3), .val (.int p4), .val (.long q5), .second, .val (.int v2), .val (.int v5), .val (.int v8), .val (.ref a10), .val (.ref a12), .val (.ref a19), .val (.ref a31), .val (.ref b48), .val (.ref b61), .val (.int (0 : Int32)), .val (.int (own_freq (own_mkl p1) (own_mkl p0) (own_mkl v5) (own_mkl v2) p2 v8 s_String_COMPACT_STRINGS)), .val (.int (own_freq (own_mkl v5) (own_mkl v2) (own_mkl p1) (own_mkl p0) v8 p2 s_String_COMPACT_STRINGS)), .val (.int (1 : Int32)), .unset, .unset, .unset] [(.ref a19), (.ref b48)]))
              refine own_callV X219 hx hZ (y := (⟨"com/example/holdfast/holdfast/internal/Route", "equals", "(Ljava/lang/Object;)Z"⟩ : MethodName)) (z := (⟨"com/example/holdfast/holdfast/internal/Route", "equals", "(Ljava/lang/Object;)Z"⟩ : MethodName)) hown (hw _ (List.mem_of_getElem? (i := 58) rfl)) (hw _ (List.mem_of_getElem? (i := 59) rfl)) (notFace_of_selects (args := #[]) (mvT hZ (hw _ (List.mem_of_getElem? (i := 61) rfl)))) (hw _ (List.mem_of_getElem? (i := 61) rfl)) (hw _ (List.mem_of_getElem? (i := 60) rfl)) (hw _ (List.mem_of_getElem? (i := 39) rfl)) (hw _ (List.mem_of_getElem? (i := 62) rfl)) (by decide) G197 (own_mreo l Z a0 hw [] b48 a19  T79.heap n0 (Nat.le_trans Z0 K79.1) G198) 0 (by decide) (by decide) eq219 (by decide) (by decide) (g := (mkF m 170 #[.val (.int p0), .val (.int p1), .val (.int p2), .val (.int p3), .val (.int p4), .val (.long q5), .second, .val (.int v2), .val (.int v5), .val (.int v8), .val (.ref a10), .val (.ref a12), .val (.ref a19), .val (.ref a31), .val (.ref b48), .val (.ref b61), .val (.int (0 : Int32)), .val (.int (own_freq (own_mkl p1) (own_mkl p0) (own_mkl v5) (own_mkl v2) p2 v8 s_String_COMPACT_STRINGS)), .val (.int (own_freq (own_mkl v5) (own_mkl v2) (own_mkl p1) (own_mkl p0) v8 p2 s_String_COMPACT_STRINGS)), .val (.int (1 : Int32)), .unset, .unset, .unset] [(.ref a19), (.ref b48)])) rfl (by rw [hml']; rfl) (argsL := [(.ref a19)]) (rest := []) rfl (lenOf own_pd_Ljava_lang_Object__Z_838 rfl) rfl (by show 2 * 0 + _ ≤ _; exact Nat.le_of_eq rfl) (hb hby at_170) (fun r220 T220 L220 X220 hQ220 => ?_)
              obtain ⟨rfl, Nq220, eq220⟩ := hQ220
              have N220 := Fr.app N219 Nq220
              show own_End p e below P (T220.setTop (mkF m 173 #[.val (.int p0), .val (.int p1), .val (.int p2), .val (.int p3), .val (.int p4), .val (.long q5), .second, .val (.int v2), .val (.int v5), .val (.int v8), .val (.ref a10), .val (.ref a12), .val (.ref a19), .val (.ref a31), .val (.ref b48), .val (.ref b61), .val (.int (0 : Int32)), .val (.int (own_freq (own_mkl p1) (own_mkl p0) (own_mkl v5) (own_mkl v2) p2 v8 s_String_COMPACT_STRINGS)), .val (.int (own_freq (own_mkl v5) (own_mkl v2) (own_mkl p1) (own_mkl p0) v8 p2 s_String_COMPACT_STRINGS)), .val (.int (1 : Int32)), .unset, .unset, .unset] [(.int (0 : Int32))]))
              refine own_st (fun _ => XS.istore X220.here hx rfl (hb hby at_173) rfl (l' := #[.val (.int p0), .val (.int p1), .val (.int p2), .val (.int p3), .val (.int p4), .val (.long q5), .second, .val (.int v2), .val (.int v5), .val (.int v8), .val (.ref a10), .val (.ref a12), .val (.ref a19), .val (.ref a31), .val (.ref b48), .val (.ref b61), .val (.int (0 : Int32)), .val (.int (own_freq (own_mkl p1) (own_mkl p0) (own_mkl v5) (own_mkl v2) p2 v8 s_String_COMPACT_STRINGS)), .val (.int (own_freq (own_mkl v5) (own_mkl v2) (own_mkl p1) (own_mkl p0) v8 p2 s_String_COMPACT_STRINGS)), .val (.int (1 : Int32)), .val (.int (0 : Int32)), .unset, .unset]) rfl) ?_
              show own_End p e below P (T220.setTop (mkF m 175 #[.val (.int p0), .val (.int p1), .val (.int p2), .val (.int p3), .val (.int p4), .val (.long q5), .second, .val (.int v2), .val (.int v5), .val (.int v8), .val (.ref a10), .val (.ref a12), .val (.ref a19), .val (.ref a31), .val (.ref b48), .val (.ref b61), .val (.int (0 : Int32)), .val (.int (own_freq (own_mkl p1) (own_mkl p0) (own_mkl v5) (own_mkl v2) p2 v8 s_String_COMPACT_STRINGS)), .val (.int (own_freq (own_mkl v5) (own_mkl v2) (own_mkl p1) (own_mkl p0) v8 p2 s_String_COMPACT_STRINGS)), .val (.int (1 : Int32)), .val (.int (0 : Int32)), .unset, .unset] []))
              refine own_st (fun _ => XS.aload X220.here hx rfl (hb hby at_175) rfl rfl) ?_
              show own_End p e below P (T220.setTop (mkF m 177 #[.val (.int p0), .val (.int p1), .val (.int p2), .val (.int p3), .val (.int p4), .val (.long q5), .second, .val (.int v2), .val (.int v5), .val (.int v8), .val (.ref a10), .val (.ref a12), .val (.ref a19), .val (.ref a31), .val (.ref b48), .val (.ref b61), .val (.int (0 : Int32)), .val (.int (own_freq (own_mkl p1) (own_mkl p0) (own_mkl v5) (own_mkl v2) p2 v8 s_String_COMPACT_STRINGS)), .val (.int (own_freq (own_mkl v5) (own_mkl v2) (own_mkl p1) (own_mkl p0) v8 p2 s_String_COMPACT_STRINGS)), .val (.int (1 : Int32)), .val (.int (0 : Int32)), .unset, .unset] [(.ref b48)]))
              refine own_st (fun _ => XS.aconstNull X220.here hx rfl (hb hby at_177)) ?_
              show own_End p e below P (T220.setTop (mkF m 178 #[.val (.int p0), .val (.int p1), .val (.int p2), .val (.int p3), .val (.int p4), .val (.long q5), .second, .val (.int v2), .val (.int v5), .val (.int v8), .val (.ref a10), .val (.ref a12), .val (.ref a19), .val (.ref a31), .val (.ref b48), .val (.ref b61), .val (.int (0 : Int32)), .val (.int (own_freq (own_mkl p1) (own_mkl p0) (own_mkl v5) (own_mkl v2) p2 v8 s_String_COMPACT_STRINGS)), .val (.int (own_freq (own_mkl v5) (own_mkl v2) (own_mkl p1) (own_mkl p0) v8 p2 s_String_COMPACT_STRINGS)), .val (.int (1 : Int32)), .val (.int (0 : Int32)), .unset, .unset] [.null, (.ref b48)]))
              refine own_callV X220 hx hZ (y := (⟨"com/example/holdfast/holdfast/internal/Route", "equals", "(Ljava/lang/Object;)Z"⟩ : MethodName)) (z := (⟨"com/example/holdfast/holdfast/internal/Route", "equals", "(Ljava/lang/Object;)Z"⟩ : MethodName)) hown (hw _ (List.mem_of_getElem? (i := 58) rfl)) (hw _ (List.mem_of_getElem? (i := 59) rfl)) (notFace_of_selects (args := #[]) (mvT hZ (hw _ (List.mem_of_getElem? (i := 61) rfl)))) (hw _ (List.mem_of_getElem? (i := 61) rfl)) (hw _ (List.mem_of_getElem? (i := 60) rfl)) (hw _ (List.mem_of_getElem? (i := 39) rfl)) (hw _ (List.mem_of_getElem? (i := 62) rfl)) (by decide) G197 (own_mren l Z a0 hw [] b48  T79.heap n0 (Nat.le_trans Z0 K79.1) ) 0 (by decide) (by decide) eq220 (by decide) (by decide) (g := (mkF m 178 #[.val (.int p0), .val (.int p1), .val (.int p2), .val (.int p3), .val (.int p4), .val (.long q5), .second, .val (.int v2), .val (.int v5), .val (.int v8), .val (.ref a10), .val (.ref a12), .val (.ref a19), .val (.ref a31), .val (.ref b48), .val (.ref b61), .val (.int (0 : Int32)), .val (.int (own_freq (own_mkl p1) (own_mkl p0) (own_mkl v5) (own_mkl v2) p2 v8 s_String_COMPACT_STRINGS)), .val (.int (own_freq (own_mkl v5) (own_mkl v2) (own_mkl p1) (own_mkl p0) v8 p2 s_String_COMPACT_STRINGS)), .val (.int (1 : Int32)), .val (.int (0 : Int32)), .unset, .unset] [.null, (.ref b48)])) rfl (by rw [hml']; rfl) (argsL := [.null]) (rest := []) rfl (lenOf own_pd_Ljava_lang_Object__Z_838 rfl) rfl (by show 2 * 0 + _ ≤ _; exact Nat.le_of_eq rfl) (hb hby at_178) (fun r221 T221 L221 X221 hQ221 => ?_)
              obtain ⟨rfl, Nq221, eq221⟩ := hQ221
              have N221 := Fr.app N220 Nq221
              show own_End p e below P (T221.setTop (mkF m 181 #[.val (.int p0), .val (.int p1), .val (.int p2), .val (.int p3), .val (.int p4), .val (.long q5), .second, .val (.int v2), .val (.int v5), .val (.int v8), .val (.ref a10), .val (.ref a12), .val (.ref a19), .val (.ref a31), .val (.ref b48), .val (.ref b61), .val (.int (0 : Int32)), .val (.int (own_freq (own_mkl p1) (own_mkl p0) (own_mkl v5) (own_mkl v2) p2 v8 s_String_COMPACT_STRINGS)), .val (.int (own_freq (own_mkl v5) (own_mkl v2) (own_mkl p1) (own_mkl p0) v8 p2 s_String_COMPACT_STRINGS)), .val (.int (1 : Int32)), .val (.int (0 : Int32)), .unset, .unset] [(.int (0 : Int32))]))
              refine own_st (fun _ => XS.istore X221.here hx rfl (hb hby at_181) rfl (l' := #[.val (.int p0), .val (.int p1), .val (.int p2), .val (.int p3), .val (.int p4), .val (.long q5), .second, .val (.int v2), .val (.int v5), .val (.int v8), .val (.ref a10), .val (.ref a12), .val (.ref a19), .val (.ref a31), .val (.ref b48), .val (.ref b61), .val (.int (0 : Int32)), .val (.int (own_freq (own_mkl p1) (own_mkl p0) (own_mkl v5) (own_mkl v2) p2 v8 s_String_COMPACT_STRINGS)), .val (.int (own_freq (own_mkl v5) (own_mkl v2) (own_mkl p1) (own_mkl p0) v8 p2 s_String_COMPACT_STRINGS)), .val (.int (1 : Int32)), .val (.int (0 : Int32)), .val (.int (0 : Int32)), .unset]) rfl) ?_
              show own_End p e below P (T221.setTop (mkF m 183 #[.val (.int p0), .val (.int p1), .val (.int p2), .val (.int p3), .val (.int p4), .val (.long q5), .second, .val (.int v2), .val (.int v5), .val (.int v8), .val (.ref a10), .val (.ref a12), .val (.ref a19), .val (.ref a31), .val (.ref b48), .val (.ref b61), .val (.int (0 : Int32)), .val (.int (own_freq (own_mkl p1) (own_mkl p0) (own_mkl v5) (own_mkl v2) p2 v8 s_String_COMPACT_STRINGS)), .val (.int (own_freq (own_mkl v5) (own_mkl v2) (own_mkl p1) (own_mkl p0) v8 p2 s_String_COMPACT_STRINGS)), .val (.int (1 : Int32)), .val (.int (0 : Int32)), .val (.int (0 : Int32)), .unset] []))
              refine own_st (fun _ => XS.iload X221.here hx rfl (hb hby at_183) rfl) ?_
              show own_End p e below P (T221.setTop (mkF m 185 #[.val (.int p0), .val (.int p1), .val (.int p2), .val (.int p3), .val (.int p4), .val (.long q5), .second, .val (.int v2), .val (.int v5), .val (.int v8), .val (.ref a10), .val (.ref a12), .val (.ref a19), .val (.ref a31), .val (.ref b48), .val (.ref b61), .val (.int (0 : Int32)), .val (.int (own_freq (own_mkl p1) (own_mkl p0) (own_mkl v5) (own_mkl v2) p2 v8 s_String_COMPACT_STRINGS)), .val (.int (own_freq (own_mkl v5) (own_mkl v2) (own_mkl p1) (own_mkl p0) v8 p2 s_String_COMPACT_STRINGS)), .val (.int (1 : Int32)), .val (.int (0 : Int32)), .val (.int (0 : Int32)), .unset] [(.int (0 : Int32))]))
              refine own_st (fun _ => XS.ifYes X221.here hx rfl (pc0 := 185) (pc' := 201) rfl (hb hby at_185) rfl ((if0 _ _).trans (teq (by decide : (0 : Int32) = (0 : Int32))).1) (by decide) (by decide)) ?_
              show own_End p e below P (T221.setTop (mkF m 201 #[.val (.int p0), .val (.int p1), .val (.int p2), .val (.int p3), .val (.int p4), .val (.long q5), .second, .val (.int v2), .val (.int v5), .val (.int v8), .val (.ref a10), .val (.ref a12), .val (.ref a19), .val (.ref a31), .val (.ref b48), .val (.ref b61), .val (.int (0 : Int32)), .val (.int (own_freq (own_mkl p1) (own_mkl p0) (own_mkl v5) (own_mkl v2) p2 v8 s_String_COMPACT_STRINGS)), .val (.int (own_freq (own_mkl v5) (own_mkl v2) (own_mkl p1) (own_mkl p0) v8 p2 s_String_COMPACT_STRINGS)), .val (.int (1 : Int32)), .val (.int (0 : Int32)), .val (.int (0 : Int32)), .unset] []))
              refine own_st (fun _ => XS.iconst X221.here hx rfl (hb hby at_201)) ?_
              show own_End p e below P (T221.setTop (mkF m 202 #[.val (.int p0), .val (.int p1), .val (.int p2), .val (.int p3), .val (.int p4), .val (.long q5), .second, .val (.int v2), .val (.int v5), .val (.int v8), .val (.ref a10), .val (.ref a12), .val (.ref a19), .val (.ref a31), .val (.ref b48), .val (.ref b61), .val (.int (0 : Int32)), .val (.int (own_freq (own_mkl p1) (own_mkl p0) (own_mkl v5) (own_mkl v2) p2 v8 s_String_COMPACT_STRINGS)), .val (.int (own_freq (own_mkl v5) (own_mkl v2) (own_mkl p1) (own_mkl p0) v8 p2 s_String_COMPACT_STRINGS)), .val (.int (1 : Int32)), .val (.int (0 : Int32)), .val (.int (0 : Int32)), .unset] [(.int (1 : Int32))]))
              refine own_st (fun _ => XS.goto X221.here hx rfl (pc0 := 202) (pc' := 206) rfl (hb hby at_202) (by decide) (by decide)) ?_
              show own_End p e below P (T221.setTop (mkF m 206 #[.val (.int p0), .val (.int p1), .val (.int p2), .val (.int p3), .val (.int p4), .val (.long q5), .second, .val (.int v2), .val (.int v5), .val (.int v8), .val (.ref a10), .val (.ref a12), .val (.ref a19), .val (.ref a31), .val (.ref b48), .val (.ref b61), .val (.int (0 : Int32)), .val (.int (own_freq (own_mkl p1) (own_mkl p0) (own_mkl v5) (own_mkl v2) p2 v8 s_String_COMPACT_STRINGS)), .val (.int (own_freq (own_mkl v5) (own_mkl v2) (own_mkl p1) (own_mkl p0) v8 p2 s_String_COMPACT_STRINGS)), .val (.int (1 : Int32)), .val (.int (0 : Int32)), .val (.int (0 : Int32)), .unset] [(.int (1 : Int32))]))
              refine own_st (fun _ => XS.istore X221.here hx rfl (hb hby at_206) rfl (l' := #[.val (.int p0), .val (.int p1), .val (.int p2), .val (.int p3), .val (.int p4), .val (.long q5), .second, .val (.int v2), .val (.int v5), .val (.int v8), .val (.ref a10), .val (.ref a12), .val (.ref a19), .val (.ref a31), .val (.ref b48), .val (.ref b61), .val (.int (0 : Int32)), .val (.int (own_freq (own_mkl p1) (own_mkl p0) (own_mkl v5) (own_mkl v2) p2 v8 s_String_COMPACT_STRINGS)), .val (.int (own_freq (own_mkl v5) (own_mkl v2) (own_mkl p1) (own_mkl p0) v8 p2 s_String_COMPACT_STRINGS)), .val (.int (1 : Int32)), .val (.int (0 : Int32)), .val (.int (0 : Int32)), .val (.int (1 : Int32))]) rfl) ?_
              show own_End p e below P (T221.setTop (mkF m 208 #[.val (.int p0), .val (.int p1), .val (.int p2), .val (.int p3), .val (.int p4), .val (.long q5), .second, .val (.int v2), .val (.int v5), .val (.int v8), .val (.ref a10), .val (.ref a12), .val (.ref a19), .val (.ref a31), .val (.ref b48), .val (.ref b61), .val (.int (0 : Int32)), .val (.int (own_freq (own_mkl p1) (own_mkl p0) (own_mkl v5) (own_mkl v2) p2 v8 s_String_COMPACT_STRINGS)), .val (.int (own_freq (own_mkl v5) (own_mkl v2) (own_mkl p1) (own_mkl p0) v8 p2 s_String_COMPACT_STRINGS)), .val (.int (1 : Int32)), .val (.int (0 : Int32)), .val (.int (0 : Int32)), .val (.int (1 : Int32))] []))
              refine own_st (fun _ => XS.iload X221.here hx rfl (hb hby at_208) rfl) ?_
              show own_End p e below P (T221.setTop (mkF m 210 #[.val (.int p0), .val (.int p1), .val (.int p2), .val (.int p3), .val (.int p4), .val (.long q5), .second, .val (.int v2), .val (.int v5), .val (.int v8), .val (.ref a10), .val (.ref a12), .val (.ref a19), .val (.ref a31), .val (.ref b48), .val (.ref b61), .val (.int (0 : Int32)), .val (.int (own_freq (own_mkl p1) (own_mkl p0) (own_mkl v5) (own_mkl v2) p2 v8 s_String_COMPACT_STRINGS)), .val (.int (own_freq (own_mkl v5) (own_mkl v2) (own_mkl p1) (own_mkl p0) v8 p2 s_String_COMPACT_STRINGS)), .val (.int (1 : Int32)), .val (.int (0 : Int32)), .val (.int (0 : Int32)), .val (.int (1 : Int32))] [(.int (own_freq (own_mkl p1) (own_mkl p0) (own_mkl v5) (own_mkl v2) p2 v8 s_String_COMPACT_STRINGS))]))
              refine own_st (fun _ => XS.iload X221.here hx rfl (hb hby at_210) rfl) ?_
              show own_End p e below P (T221.setTop (mkF m 212 #[.val (.int p0), .val (.int p1), .val (.int p2), .val (.int p3), .val (.int p4), .val (.long q5), .second, .val (.int v2), .val (.int v5), .val (.int v8), .val (.ref a10), .val (.ref a12), .val (.ref a19), .val (.ref a31), .val (.ref b48), .val (.ref b61), .val (.int (0 : Int32)), .val (.int (own_freq (own_mkl p1) (own_mkl p0) (own_mkl v5) (own_mkl v2) p2 v8 s_String_COMPACT_STRINGS)), .val (.int (own_freq (own_mkl v5) (own_mkl v2) (own_mkl p1) (own_mkl p0) v8 p2 s_String_COMPACT_STRINGS)), .val (.int (1 : Int32)), .val (.int (0 : Int32)), .val (.int (0 : Int32)), .val (.int (1 : Int32))] [(.int (0 : Int32)), (.int (own_freq (own_mkl p1) (own_mkl p0) (own_mkl v5) (own_mkl v2) p2 v8 s_String_COMPACT_STRINGS))]))
              have hd222 : (own_freq (own_mkl p1) (own_mkl p0) (own_mkl v5) (own_mkl v2) p2 v8 s_String_COMPACT_STRINGS) = (0 : Int32) := by first | exact own_d1 (by assumption) | exact own_d1' (by assumption) | exact own_d2 (by assumption) | exact own_d2' (by assumption) | exact own_d3 (by assumption) | exact own_d3' (by assumption) | exact own_d4 (by assumption) (by assumption) (by assumption) | exact own_d4' (by assumption) (by assumption) (by assumption)
              refine own_st (fun _ => XS.icmpNo X221.here hx rfl (hb hby at_212) rfl (teq hd222).2) ?_
              show own_End p e below P (T221.setTop (mkF m 215 #[.val (.int p0), .val (.int p1), .val (.int p2), .val (.int p3), .val (.int p4), .val (.long q5), .second, .val (.int v2), .val (.int v5), .val (.int v8), .val (.ref a10), .val (.ref a12), .val (.ref a19), .val (.ref a31), .val (.ref b48), .val (.ref b61), .val (.int (0 : Int32)), .val (.int (own_freq (own_mkl p1) (own_mkl p0) (own_mkl v5) (own_mkl v2) p2 v8 s_String_COMPACT_STRINGS)), .val (.int (own_freq (own_mkl v5) (own_mkl v2) (own_mkl p1) (own_mkl p0) v8 p2 s_String_COMPACT_STRINGS)), .val (.int (1 : Int32)), .val (.int (0 : Int32)), .val (.int (0 : Int32)), .val (.int (1 : Int32))] []))
              refine own_st (fun _ => XS.iload X221.here hx rfl (hb hby at_215) rfl) ?_
              show own_End p e below P (T221.setTop (mkF m 217 #[.val (.int p0), .val (.int p1), .val (.int p2), .val (.int p3), .val (.int p4), .val (.long q5), .second, .val (.int v2), .val (.int v5), .val (.int v8), .val (.ref a10), .val (.ref a12), .val (.ref a19), .val (.ref a31), .val (.ref b48), .val (.ref b61), .val (.int (0 : Int32)), .val (.int (own_freq (own_mkl p1) (own_mkl p0) (own_mkl v5) (own_mkl v2) p2 v8 s_String_COMPACT_STRINGS)), .val (.int (own_freq (own_mkl v5) (own_mkl v2) (own_mkl p1) (own_mkl p0) v8 p2 s_String_COMPACT_STRINGS)), .val (.int (1 : Int32)), .val (.int (0 : Int32)), .val (.int (0 : Int32)), .val (.int (1 : Int32))] [(.int (own_freq (own_mkl v5) (own_mkl v2) (own_mkl p1) (own_mkl p0) v8 p2 s_String_COMPACT_STRINGS))]))
              refine own_st (fun _ => XS.iload X221.here hx rfl (hb hby at_217) rfl) ?_
              show own_End p e below P (T221.setTop (mkF m 219 #[.val (.int p0), .val (.int p1), .val (.int p2), .val (.int p3), .val (.int p4), .val (.long q5), .second, .val (.int v2), .val (.int v5), .val (.int v8), .val (.ref a10), .val (.ref a12), .val (.ref a19), .val (.ref a31), .val (.ref b48), .val (.ref b61), .val (.int (0 : Int32)), .val (.int (own_freq (own_mkl p1) (own_mkl p0) (own_mkl v5) (own_mkl v2) p2 v8 s_String_COMPACT_STRINGS)), .val (.int (own_freq (own_mkl v5) (own_mkl v2) (own_mkl p1) (own_mkl p0) v8 p2 s_String_COMPACT_STRINGS)), .val (.int (1 : Int32)), .val (.int (0 : Int32)), .val (.int (0 : Int32)), .val (.int (1 : Int32))] [(.int (0 : Int32)), (.int (own_freq (own_mkl v5) (own_mkl v2) (own_mkl p1) (own_mkl p0) v8 p2 s_String_COMPACT_STRINGS))]))
              have hd223 : (own_freq (own_mkl v5) (own_mkl v2) (own_mkl p1) (own_mkl p0) v8 p2 s_String_COMPACT_STRINGS) = (0 : Int32) := by first | exact own_d1 (by assumption) | exact own_d1' (by assumption) | exact own_d2 (by assumption) | exact own_d2' (by assumption) | exact own_d3 (by assumption) | exact own_d3' (by assumption) | exact own_d4 (by assumption) (by assumption) (by assumption) | exact own_d4' (by assumption) (by assumption) (by assumption)
              refine own_st (fun _ => XS.icmpNo X221.here hx rfl (hb hby at_219) rfl (teq hd223).2) ?_
              show own_End p e below P (T221.setTop (mkF m 222 #[.val (.int p0), .val (.int p1), .val (.int p2), .val (.int p3), .val (.int p4), .val (.long q5), .second, .val (.int v2), .val (.int v5), .val (.int v8), .val (.ref a10), .val (.ref a12), .val (.ref a19), .val (.ref a31), .val (.ref b48), .val (.ref b61), .val (.int (0 : Int32)), .val (.int (own_freq (own_mkl p1) (own_mkl p0) (own_mkl v5) (own_mkl v2) p2 v8 s_String_COMPACT_STRINGS)), .val (.int (own_freq (own_mkl v5) (own_mkl v2) (own_mkl p1) (own_mkl p0) v8 p2 s_String_COMPACT_STRINGS)), .val (.int (1 : Int32)), .val (.int (0 : Int32)), .val (.int (0 : Int32)), .val (.int (1 : Int32))] []))
              refine own_st (fun _ => XS.iload X221.here hx rfl (hb hby at_222) rfl) ?_
              show own_End p e below P (T221.setTop (mkF m 224 #[.val (.int p0), .val (.int p1), .val (.int p2), .val (.int p3), .val (.int p4), .val (.long q5), .second, .val (.int v2), .val (.int v5), .val (.int v8), .val (.ref a10), .val (.ref a12), .val (.ref a19), .val (.ref a31), .val (.ref b48), .val (.ref b61), .val (.int (0 : Int32)), .val (.int (own_freq (own_mkl p1) (own_mkl p0) (own_mkl v5) (own_mkl v2) p2 v8 s_String_COMPACT_STRINGS)), .val (.int (own_freq (own_mkl v5) (own_mkl v2) (own_mkl p1) (own_mkl p0) v8 p2 s_String_COMPACT_STRINGS)), .val (.int (1 : Int32)), .val (.int (0 : Int32)), .val (.int (0 : Int32)), .val (.int (1 : Int32))] [(.int (1 : Int32))]))
              refine own_st (fun _ => XS.ifNo X221.here hx rfl (hb hby at_224) rfl ((if0 _ _).trans (feq (by decide : ¬ ((1 : Int32) = (0 : Int32)))).1)) ?_
              show own_End p e below P (T221.setTop (mkF m 227 #[.val (.int p0), .val (.int p1), .val (.int p2), .val (.int p3), .val (.int p4), .val (.long q5), .second, .val (.int v2), .val (.int v5), .val (.int v8), .val (.ref a10), .val (.ref a12), .val (.ref a19), .val (.ref a31), .val (.ref b48), .val (.ref b61), .val (.int (0 : Int32)), .val (.int (own_freq (own_mkl p1) (own_mkl p0) (own_mkl v5) (own_mkl v2) p2 v8 s_String_COMPACT_STRINGS)), .val (.int (own_freq (own_mkl v5) (own_mkl v2) (own_mkl p1) (own_mkl p0) v8 p2 s_String_COMPACT_STRINGS)), .val (.int (1 : Int32)), .val (.int (0 : Int32)), .val (.int (0 : Int32)), .val (.int (1 : Int32))] []))
              refine own_st (fun _ => XS.iload X221.here hx rfl (hb hby at_227) rfl) ?_
              show own_End p e below P (T221.setTop (mkF m 229 #[.val (.int p0), .val (.int p1), .val (.int p2), .val (.int p3), .val (.int p4), .val (.long q5), .second, .val (.int v2), .val (.int v5), .val (.int v8), .val (.ref a10), .val (.ref a12), .val (.ref a19), .val (.ref a31), .val (.ref b48), .val (.ref b61), .val (.int (0 : Int32)), .val (.int (own_freq (own_mkl p1) (own_mkl p0) (own_mkl v5) (own_mkl v2) p2 v8 s_String_COMPACT_STRINGS)), .val (.int (own_freq (own_mkl v5) (own_mkl v2) (own_mkl p1) (own_mkl p0) v8 p2 s_String_COMPACT_STRINGS)), .val (.int (1 : Int32)), .val (.int (0 : Int32)), .val (.int (0 : Int32)), .val (.int (1 : Int32))] [(.int (0 : Int32))]))
              refine own_st (fun _ => XS.ifNo X221.here hx rfl (hb hby at_229) rfl ((if0 _ _).trans (teq (by decide : (0 : Int32) = (0 : Int32))).2)) ?_
              show own_End p e below P (T221.setTop (mkF m 232 #[.val (.int p0), .val (.int p1), .val (.int p2), .val (.int p3), .val (.int p4), .val (.long q5), .second, .val (.int v2), .val (.int v5), .val (.int v8), .val (.ref a10), .val (.ref a12), .val (.ref a19), .val (.ref a31), .val (.ref b48), .val (.ref b61), .val (.int (0 : Int32)), .val (.int (own_freq (own_mkl p1) (own_mkl p0) (own_mkl v5) (own_mkl v2) p2 v8 s_String_COMPACT_STRINGS)), .val (.int (own_freq (own_mkl v5) (own_mkl v2) (own_mkl p1) (own_mkl p0) v8 p2 s_String_COMPACT_STRINGS)), .val (.int (1 : Int32)), .val (.int (0 : Int32)), .val (.int (0 : Int32)), .val (.int (1 : Int32))] []))
              refine own_st (fun _ => XS.iload X221.here hx rfl (hb hby at_232) rfl) ?_
              show own_End p e below P (T221.setTop (mkF m 234 #[.val (.int p0), .val (.int p1), .val (.int p2), .val (.int p3), .val (.int p4), .val (.long q5), .second, .val (.int v2), .val (.int v5), .val (.int v8), .val (.ref a10), .val (.ref a12), .val (.ref a19), .val (.ref a31), .val (.ref b48), .val (.ref b61), .val (.int (0 : Int32)), .val (.int (own_freq (own_mkl p1) (own_mkl p0) (own_mkl v5) (own_mkl v2) p2 v8 s_String_COMPACT_STRINGS)), .val (.int (own_freq (own_mkl v5) (own_mkl v2) (own_mkl p1) (own_mkl p0) v8 p2 s_String_COMPACT_STRINGS)), .val (.int (1 : Int32)), .val (.int (0 : Int32)), .val (.int (0 : Int32)), .val (.int (1 : Int32))] [(.int (0 : Int32))]))
              refine own_st (fun _ => XS.ifNo X221.here hx rfl (hb hby at_234) rfl ((if0 _ _).trans (teq (by decide : (0 : Int32) = (0 : Int32))).2)) ?_
              show own_End p e below P (T221.setTop (mkF m 237 #[.val (.int p0), .val (.int p1), .val (.int p2), .val (.int p3), .val (.int p4), .val (.long q5), .second, .val (.int v2), .val (.int v5), .val (.int v8), .val (.ref a10), .val (.ref a12), .val (.ref a19), .val (.ref a31), .val (.ref b48), .val (.ref b61), .val (.int (0 : Int32)), .val (.int (own_freq (own_mkl p1) (own_mkl p0) (own_mkl v5) (own_mkl v2) p2 v8 s_String_COMPACT_STRINGS)), .val (.int (own_freq (own_mkl v5) (own_mkl v2) (own_mkl p1) (own_mkl p0) v8 p2 s_String_COMPACT_STRINGS)), .val (.int (1 : Int32)), .val (.int (0 : Int32)), .val (.int (0 : Int32)), .val (.int (1 : Int32))] []))
              refine own_st (fun _ => XS.iload X221.here hx rfl (hb hby at_237) rfl) ?_
              show own_End p e below P (T221.setTop (mkF m 239 #[.val (.int p0), .val (.int p1), .val (.int p2), .val (.int p3), .val (.int p4), .val (.long q5), .second, .val (.int v2), .val (.int v5), .val (.int v8), .val (.ref a10), .val (.ref a12), .val (.ref a19), .val (.ref a31), .val (.ref b48), .val (.ref b61), .val (.int (0 : Int32)), .val (.int (own_freq (own_mkl p1) (own_mkl p0) (own_mkl v5) (own_mkl v2) p2 v8 s_String_COMPACT_STRINGS)), .val (.int (own_freq (own_mkl v5) (own_mkl v2) (own_mkl p1) (own_mkl p0) v8 p2 s_String_COMPACT_STRINGS)), .val (.int (1 : Int32)), .val (.int (0 : Int32)), .val (.int (0 : Int32)), .val (.int (1 : Int32))] [(.int (1 : Int32))]))
              refine own_st (fun _ => XS.ifNo X221.here hx rfl (hb hby at_239) rfl ((if0 _ _).trans (feq (by decide : ¬ ((1 : Int32) = (0 : Int32)))).1)) ?_
              show own_End p e below P (T221.setTop (mkF m 242 #[.val (.int p0), .val (.int p1), .val (.int p2), .val (.int p3), .val (.int p4), .val (.long q5), .second, .val (.int v2), .val (.int v5), .val (.int v8), .val (.ref a10), .val (.ref a12), .val (.ref a19), .val (.ref a31), .val (.ref b48), .val (.ref b61), .val (.int (0 : Int32)), .val (.int (own_freq (own_mkl p1) (own_mkl p0) (own_mkl v5) (own_mkl v2) p2 v8 s_String_COMPACT_STRINGS)), .val (.int (own_freq (own_mkl v5) (own_mkl v2) (own_mkl p1) (own_mkl p0) v8 p2 s_String_COMPACT_STRINGS)), .val (.int (1 : Int32)), .val (.int (0 : Int32)), .val (.int (0 : Int32)), .val (.int (1 : Int32))] []))
              refine own_st (fun _ => XS.iconst X221.here hx rfl (hb hby at_242)) ?_
              show own_End p e below P (T221.setTop (mkF m 243 #[.val (.int p0), .val (.int p1), .val (.int p2), .val (.int p3), .val (.int p4), .val (.long q5), .second, .val (.int v2), .val (.int v5), .val (.int v8), .val (.ref a10), .val (.ref a12), .val (.ref a19), .val (.ref a31), .val (.ref b48), .val (.ref b61), .val (.int (0 : Int32)), .val (.int (own_freq (own_mkl p1) (own_mkl p0) (own_mkl v5) (own_mkl v2) p2 v8 s_String_COMPACT_STRINGS)), .val (.int (own_freq (own_mkl v5) (own_mkl v2) (own_mkl p1) (own_mkl p0) v8 p2 s_String_COMPACT_STRINGS)), .val (.int (1 : Int32)), .val (.int (0 : Int32)), .val (.int (0 : Int32)), .val (.int (1 : Int32))] [(.int (1 : Int32))]))
              refine own_st (fun _ => XS.goto X221.here hx rfl (pc0 := 243) (pc' := 247) rfl (hb hby at_243) (by decide) (by decide)) ?_
              show own_End p e below P (T221.setTop (mkF m 247 #[.val (.int p0), .val (.int p1), .val (.int p2), .val (.int p3), .val (.int p4), .val (.long q5), .second, .val (.int v2), .val (.int v5), .val (.int v8), .val (.ref a10), .val (.ref a12), .val (.ref a19), .val (.ref a31), .val (.ref b48), .val (.ref b61), .val (.int (0 : Int32)), .val (.int (own_freq (own_mkl p1) (own_mkl p0) (own_mkl v5) (own_mkl v2) p2 v8 s_String_COMPACT_STRINGS)), .val (.int (own_freq (own_mkl v5) (own_mkl v2) (own_mkl p1) (own_mkl p0) v8 p2 s_String_COMPACT_STRINGS)), .val (.int (1 : Int32)), .val (.int (0 : Int32)), .val (.int (0 : Int32)), .val (.int (1 : Int32))] [(.int (1 : Int32))]))
              have G224 := (Nat.le_trans (Nat.le_trans (Nat.le_trans (Nat.le_trans hk31 E48.1) Kq60.1) E61.1) Kq79.1)
              exact own_retNW X221 hS G224 eq221 hx hlk hP (t := .boolean) (by simp) hrt (hb hby at_247) (by decide) (by decide) ⟨rfl, N221⟩
      by_cases hc7 : (p4 &&& (1 : Int32)) = (0 : Int32)
      · refine own_st (fun _ => XS.ifYes X0.here hx rfl (pc0 := 43) (pc' := 50) rfl (hb hby at_43) rfl ((if0 _ _).trans (teq hc7).1) (by decide) (by decide)) ?_
        show own_End p e below P (s₁.setTop (mkF m 50 #[.val (.int p0), .val (.int p1), .val (.int p2), .val (.int p3), .val (.int p4), .val (.long q5), .second, .val (.int v2), .val (.int v5), .unset, .unset, .unset, .unset, .unset, .unset, .unset, .unset, .unset, .unset, .unset, .unset, .unset, .unset] []))
        refine own_st (fun _ => XS.iloadN X0.here hx rfl (hb hby at_50) rfl) ?_
        show own_End p e below P (s₁.setTop (mkF m 51 #[.val (.int p0), .val (.int p1), .val (.int p2), .val (.int p3), .val (.int p4), .val (.long q5), .second, .val (.int v2), .val (.int v5), .unset, .unset, .unset, .unset, .unset, .unset, .unset, .unset, .unset, .unset, .unset, .unset, .unset, .unset] [(.int p3)]))
        exact J9 _ ((if_pos hc7).trans (rfl)).symm
      · refine own_st (fun _ => XS.ifNo X0.here hx rfl (hb hby at_43) rfl ((if0 _ _).trans (feq hc7).1)) ?_
        show own_End p e below P (s₁.setTop (mkF m 46 #[.val (.int p0), .val (.int p1), .val (.int p2), .val (.int p3), .val (.int p4), .val (.long q5), .second, .val (.int v2), .val (.int v5), .unset, .unset, .unset, .unset, .unset, .unset, .unset, .unset, .unset, .unset, .unset, .unset, .unset, .unset] []))
        refine own_st (fun _ => XS.iloadN X0.here hx rfl (hb hby at_46) rfl) ?_
        show own_End p e below P (s₁.setTop (mkF m 47 #[.val (.int p0), .val (.int p1), .val (.int p2), .val (.int p3), .val (.int p4), .val (.long q5), .second, .val (.int v2), .val (.int v5), .unset, .unset, .unset, .unset, .unset, .unset, .unset, .unset, .unset, .unset, .unset, .unset, .unset, .unset] [(.int p2)]))
        refine own_st (fun _ => XS.goto X0.here hx rfl (pc0 := 47) (pc' := 51) rfl (hb hby at_47) (by decide) (by decide)) ?_
        show own_End p e below P (s₁.setTop (mkF m 51 #[.val (.int p0), .val (.int p1), .val (.int p2), .val (.int p3), .val (.int p4), .val (.long q5), .second, .val (.int v2), .val (.int v5), .unset, .unset, .unset, .unset, .unset, .unset, .unset, .unset, .unset, .unset, .unset, .unset, .unset, .unset] [(.int p2)]))
        exact J9 _ ((if_neg hc7).trans (rfl)).symm
    by_cases hc4 : (p4 &&& (4 : Int32)) = (0 : Int32)
    · refine own_st (fun _ => XS.ifYes X0.here hx rfl (pc0 := 22) (pc' := 29) rfl (hb hby at_22) rfl ((if0 _ _).trans (teq hc4).1) (by decide) (by decide)) ?_
      show own_End p e below P (s₁.setTop (mkF m 29 #[.val (.int p0), .val (.int p1), .val (.int p2), .val (.int p3), .val (.int p4), .val (.long q5), .second, .val (.int v2), .unset, .unset, .unset, .unset, .unset, .unset, .unset, .unset, .unset, .unset, .unset, .unset, .unset, .unset, .unset] []))
      refine own_st (fun _ => XS.iloadN X0.here hx rfl (hb hby at_29) rfl) ?_
      show own_End p e below P (s₁.setTop (mkF m 30 #[.val (.int p0), .val (.int p1), .val (.int p2), .val (.int p3), .val (.int p4), .val (.long q5), .second, .val (.int v2), .unset, .unset, .unset, .unset, .unset, .unset, .unset, .unset, .unset, .unset, .unset, .unset, .unset, .unset, .unset] [(.int p1)]))
      refine own_st (fun _ => XS.lload X0.here hx rfl (hb hby at_30) rfl) ?_
      show own_End p e below P (s₁.setTop (mkF m 32 #[.val (.int p0), .val (.int p1), .val (.int p2), .val (.int p3), .val (.int p4), .val (.long q5), .second, .val (.int v2), .unset, .unset, .unset, .unset, .unset, .unset, .unset, .unset, .unset, .unset, .unset, .unset, .unset, .unset, .unset] [(.long q5), (.int p1)]))
      refine own_st (fun _ => XS.bipush X0.here hx rfl (hb hby at_32)) ?_
      show own_End p e below P (s₁.setTop (mkF m 34 #[.val (.int p0), .val (.int p1), .val (.int p2), .val (.int p3), .val (.int p4), .val (.long q5), .second, .val (.int v2), .unset, .unset, .unset, .unset, .unset, .unset, .unset, .unset, .unset, .unset, .unset, .unset, .unset, .unset, .unset] [(.int (32 : Int32)), (.long q5), (.int p1)]))
      refine own_st (fun _ => XS.lushr X0.here hx rfl (hb hby at_34) rfl) ?_
      show own_End p e below P (s₁.setTop (mkF m 35 #[.val (.int p0), .val (.int p1), .val (.int p2), .val (.int p3), .val (.int p4), .val (.long q5), .second, .val (.int v2), .unset, .unset, .unset, .unset, .unset, .unset, .unset, .unset, .unset, .unset, .unset, .unset, .unset, .unset, .unset] [(.long ((q5.toUInt64 >>> ((32 : Int32) &&& 0x3f).toInt64.toUInt64).toInt64)), (.int p1)]))
      refine own_st (fun _ => XS.l2i X0.here hx rfl (hb hby at_35) rfl) ?_
      show own_End p e below P (s₁.setTop (mkF m 36 #[.val (.int p0), .val (.int p1), .val (.int p2), .val (.int p3), .val (.int p4), .val (.long q5), .second, .val (.int v2), .unset, .unset, .unset, .unset, .unset, .unset, .unset, .unset, .unset, .unset, .unset, .unset, .unset, .unset, .unset] [(.int (((q5.toUInt64 >>> ((32 : Int32) &&& 0x3f).toInt64.toUInt64).toInt64).toInt32)), (.int p1)]))
      refine own_st (fun _ => XS.ixor X0.here hx rfl (hb hby at_36) rfl) ?_
      show own_End p e below P (s₁.setTop (mkF m 37 #[.val (.int p0), .val (.int p1), .val (.int p2), .val (.int p3), .val (.int p4), .val (.long q5), .second, .val (.int v2), .unset, .unset, .unset, .unset, .unset, .unset, .unset, .unset, .unset, .unset, .unset, .unset, .unset, .unset, .unset] [(.int (p1 ^^^ (((q5.toUInt64 >>> ((32 : Int32) &&& 0x3f).toInt64.toUInt64).toInt64).toInt32)))]))
      exact J6 _ ((if_pos hc4).trans (rfl)).symm
    · refine own_st (fun _ => XS.ifNo X0.here hx rfl (hb hby at_22) rfl ((if0 _ _).trans (feq hc4).1)) ?_
      show own_End p e below P (s₁.setTop (mkF m 25 #[.val (.int p0), .val (.int p1), .val (.int p2), .val (.int p3), .val (.int p4), .val (.long q5), .second, .val (.int v2), .unset, .unset, .unset, .unset, .unset, .unset, .unset, .unset, .unset, .unset, .unset, .unset, .unset, .unset, .unset] []))
      refine own_st (fun _ => XS.iloadN X0.here hx rfl (hb hby at_25) rfl) ?_
      show own_End p e below P (s₁.setTop (mkF m 26 #[.val (.int p0), .val (.int p1), .val (.int p2), .val (.int p3), .val (.int p4), .val (.long q5), .second, .val (.int v2), .unset, .unset, .unset, .unset, .unset, .unset, .unset, .unset, .unset, .unset, .unset, .unset, .unset, .unset, .unset] [(.int p1)]))
      refine own_st (fun _ => XS.goto X0.here hx rfl (pc0 := 26) (pc' := 37) rfl (hb hby at_26) (by decide) (by decide)) ?_
      show own_End p e below P (s₁.setTop (mkF m 37 #[.val (.int p0), .val (.int p1), .val (.int p2), .val (.int p3), .val (.int p4), .val (.long q5), .second, .val (.int v2), .unset, .unset, .unset, .unset, .unset, .unset, .unset, .unset, .unset, .unset, .unset, .unset, .unset, .unset, .unset] [(.int p1)]))
      exact J6 _ ((if_neg hc4).trans (rfl)).symm
  by_cases hc1 : (p4 &&& (2 : Int32)) = (0 : Int32)
  · refine own_st (fun _ => XS.ifYes X0.here hx rfl (pc0 := 4) (pc' := 11) rfl (hb hby at_4) rfl ((if0 _ _).trans (teq hc1).1) (by decide) (by decide)) ?_
    show own_End p e below P (s₁.setTop (mkF m 11 #[.val (.int p0), .val (.int p1), .val (.int p2), .val (.int p3), .val (.int p4), .val (.long q5), .second, .unset, .unset, .unset, .unset, .unset, .unset, .unset, .unset, .unset, .unset, .unset, .unset, .unset, .unset, .unset, .unset] []))
    refine own_st (fun _ => XS.iloadN X0.here hx rfl (hb hby at_11) rfl) ?_
    show own_End p e below P (s₁.setTop (mkF m 12 #[.val (.int p0), .val (.int p1), .val (.int p2), .val (.int p3), .val (.int p4), .val (.long q5), .second, .unset, .unset, .unset, .unset, .unset, .unset, .unset, .unset, .unset, .unset, .unset, .unset, .unset, .unset, .unset, .unset] [(.int p0)]))
    refine own_st (fun _ => XS.lload X0.here hx rfl (hb hby at_12) rfl) ?_
    show own_End p e below P (s₁.setTop (mkF m 14 #[.val (.int p0), .val (.int p1), .val (.int p2), .val (.int p3), .val (.int p4), .val (.long q5), .second, .unset, .unset, .unset, .unset, .unset, .unset, .unset, .unset, .unset, .unset, .unset, .unset, .unset, .unset, .unset, .unset] [(.long q5), (.int p0)]))
    refine own_st (fun _ => XS.l2i X0.here hx rfl (hb hby at_14) rfl) ?_
    show own_End p e below P (s₁.setTop (mkF m 15 #[.val (.int p0), .val (.int p1), .val (.int p2), .val (.int p3), .val (.int p4), .val (.long q5), .second, .unset, .unset, .unset, .unset, .unset, .unset, .unset, .unset, .unset, .unset, .unset, .unset, .unset, .unset, .unset, .unset] [(.int (q5.toInt32)), (.int p0)]))
    refine own_st (fun _ => XS.ixor X0.here hx rfl (hb hby at_15) rfl) ?_
    show own_End p e below P (s₁.setTop (mkF m 16 #[.val (.int p0), .val (.int p1), .val (.int p2), .val (.int p3), .val (.int p4), .val (.long q5), .second, .unset, .unset, .unset, .unset, .unset, .unset, .unset, .unset, .unset, .unset, .unset, .unset, .unset, .unset, .unset, .unset] [(.int (p0 ^^^ (q5.toInt32)))]))
    exact J3 _ ((if_pos hc1).trans (rfl)).symm
  · refine own_st (fun _ => XS.ifNo X0.here hx rfl (hb hby at_4) rfl ((if0 _ _).trans (feq hc1).1)) ?_
    show own_End p e below P (s₁.setTop (mkF m 7 #[.val (.int p0), .val (.int p1), .val (.int p2), .val (.int p3), .val (.int p4), .val (.long q5), .second, .unset, .unset, .unset, .unset, .unset, .unset, .unset, .unset, .unset, .unset, .unset, .unset, .unset, .unset, .unset, .unset] []))
    refine own_st (fun _ => XS.iloadN X0.here hx rfl (hb hby at_7) rfl) ?_
    show own_End p e below P (s₁.setTop (mkF m 8 #[.val (.int p0), .val (.int p1), .val (.int p2), .val (.int p3), .val (.int p4), .val (.long q5), .second, .unset, .unset, .unset, .unset, .unset, .unset, .unset, .unset, .unset, .unset, .unset, .unset, .unset, .unset, .unset, .unset] [(.int p0)]))
    refine own_st (fun _ => XS.goto X0.here hx rfl (pc0 := 8) (pc' := 16) rfl (hb hby at_8) (by decide) (by decide)) ?_
    show own_End p e below P (s₁.setTop (mkF m 16 #[.val (.int p0), .val (.int p1), .val (.int p2), .val (.int p3), .val (.int p4), .val (.long q5), .second, .unset, .unset, .unset, .unset, .unset, .unset, .unset, .unset, .unset, .unset, .unset, .unset, .unset, .unset, .unset, .unset] [(.int p0)]))
    exact J3 _ ((if_neg hc1).trans (rfl)).symm
set_option maxRecDepth 65536 in
set_option maxHeartbeats 40000000 in
theorem comes_1 {Post : Tables → Env → Array Value → State → Outcome → State → Prop} (hpost : ∀ tb e args s v u, (limb_1_1.after args s (.returned v) u = true ∧ limb_1_2.after args s (.returned v) u = true ∧ True) → ReturnedEndW s (.returned v) u (Jvm.fieldLocs frame_1_writes args s ++ Jvm.arrayLocs frame_1_arrays args s ++ Jvm.staticLocs frame_1_statics s) 40 1216 → Post tb e args s (.returned v) u) :
    ArmFor flags0 classFile x code maxLocals ret World_1 tables_1 room_1 Calls_1 rest_1 Pre_1 Post := by
  intro l hfl _ _ p e ha hc hk s m args below hf hA hF happ hP
  obtain ⟨hcalls, hrest, hpre⟩ := hP
  obtain ⟨-, -, -, hnamed, -, -, -, hat⟩ := (Spec.applies_iff hf).mp happ
  obtain ⟨hg, hn⟩ := and_e (Cond.before_iff.mp (show (Jvm.Cond.and given_1 narrow_1).before args s = true from hpre))
  obtain ⟨k1, l1⟩ := and_e hg
  obtain ⟨k2, l2⟩ := and_e l1
  obtain ⟨k3, l3⟩ := and_e l2
  obtain ⟨k4, l4⟩ := and_e l3
  obtain ⟨k5, l5⟩ := and_e l4
  obtain ⟨k6, l6⟩ := and_e l5
  obtain ⟨w0, w1, w2, w3, w4, w5, rfl⟩ : ∃ w0 w1 w2 w3 w4 w5 : Value, args = #[w0, w1, w2, w3, w4, w5] := by
    have hs : args.size = 6 := by simpa [Cond.value, given_1] using k1
    obtain ⟨L⟩ := args
    match L, hs with
    | [w0, w1, w2, w3, w4, w5], _ => exact ⟨w0, w1, w2, w3, w4, w5, rfl⟩
  have hw := fun d (hd : d ∈ tables_1) => atoms_spec (ws := Jvm.Cond.code x code maxLocals ret :: tables_1) hat d (List.mem_cons_of_mem _ hd)
  have hfit : Fit s := fun {y c} hc i hi => by
    obtain ⟨ha, rfl⟩ := Array.getElem?_eq_some_iff.mp hc
    have q := List.all_eq_true.mp ((Array.all_eq_true_iff_forall_mem.mp hF) _ (Array.getElem_mem ha)) i (List.mem_range.mpr hi)
    simpa [Array.getElem?_eq_getElem hi] using q
  obtain ⟨hsets, hown0⟩ := atoms_of _ (rest_1_c_eq ▸ (show rest_1_c.before _ s = true from hrest))
  have hr0 := Cond.before_iff.mp hown0
  obtain ⟨i0, ei0⟩ := is_v k2
  obtain rfl : w0 = (.int i0) := Option.some.inj ei0
  obtain ⟨i1, ei1⟩ := is_v k3
  obtain rfl : w1 = (.int i1) := Option.some.inj ei1
  obtain ⟨i2, ei2⟩ := is_v k4
  obtain rfl : w2 = (.int i2) := Option.some.inj ei2
  obtain ⟨i3, ei3⟩ := is_v k5
  obtain rfl : w3 = (.int i3) := Option.some.inj ei3
  obtain ⟨i4, ei4⟩ := is_v k6
  obtain rfl : w4 = (.int i4) := Option.some.inj ei4
  obtain ⟨i5, ei5⟩ := isL_v l6
  obtain rfl : w5 = (.long i5) := Option.some.inj ei5
  have hi0 := is_v (Cond.before_iff.mp (hsets _ (List.mem_of_getElem? (i := 1) rfl)))
  obtain ⟨cz, ecz⟩ := hi0
  have S1 : Sta s s.heap "java/lang/String" "COMPACT_STRINGS" "Z" (.int cz) := Sta.start ecz (Or.inl (hsets _ (List.mem_of_getElem? (i := 0) rfl)))
  have hcz : ¬ (cz = (0 : Int32)) := gotF (Cond.eq_ints ecz (Term.int_eval (0))) (not_v (Cond.before_iff.mp (hsets _ (List.mem_of_getElem? (i := 2) rfl))))
  have hcv : CHv s consts_1 s.vm s.heap := CHv.start (own_EW hw) hcalls.1 (hsets _ (List.mem_of_getElem? (i := 2) rfl)) (hw _ (List.mem_of_getElem? (i := 19) rfl)) (hw _ (List.mem_of_getElem? (i := 5) rfl))
  obtain ⟨n, o, h1, h2, h3, _, L, rfl, ⟨rfl, N⟩, hq⟩ := own_m0 l s _ hw tables_1 i0 i1 i2 i3 i4 i5 cz s.heap s.heap.size (Nat.le_refl _) S1 hcz p e ha hc hk s m _ below hf ((Spec.applies_iff_loose hf).mp happ).1 ⟨rfl, State.Warmed39.refl s, rfl, hcv⟩ trivial
  refine ⟨n, _, h1, h2, h3, hpost _ _ _ _ _ _ ⟨Cond.after_iff.mpr rfl, Cond.after_iff.mpr (eq_i res_at (Term.int_eval (1)) rfl), trivial⟩ ⟨hq.1, hq.2.1, hq.2.2.1, (hq.2.2.2.sift fun y hy => Or.inr (N y hy)).mono (by decide) (by decide)⟩⟩
theorem main_1_1 : Claimed_1_1 := comes_1 fun _ _ _ _ _ _ h hF => ⟨h.1, hF⟩
theorem main_1_2 : Claimed_1_2 := comes_1 fun _ _ _ _ _ _ h hF => ⟨h.2.1, hF⟩
end Jvm.Pilot.@@N@@
namespace Jvm.Pilot.@@N@@
open Jvm Jvm.ClassFile Sem Op Lib Jvm.Free Jvm.Stand Jvm.Pilot.@@N@@.Jvm.D
/-! MADE BY PROGRAM (witnessworld.py) out of the Statement's table words and the real class files: 21 classes; the members and pool entries that the words name. The judged class is class 1, her method 1. -/
namespace start1
open Jvm.ClassFile
def u (s : String) : CpInfo := .utf8 (stringToUtf16 s)
/-- a pool by its gaps: so many unusable entries, then the entry; so many at the end -/
def gap : Nat → List CpInfo → List CpInfo
  | 0, r => r
  | n + 1, r => .unusable :: gap n r
def poolList (es : List (Nat × CpInfo)) (last : Nat) : List CpInfo := es.foldr (fun e r => gap e.1 (e.2 :: r)) (gap last [])
def pool (es : List (Nat × CpInfo)) (last : Nat) : Array CpInfo := ⟨poolList es last⟩
def fileOf (pool : Array CpInfo) (this : Nat) (attrs : Array Attribute := #[]) (ms : Array MethodInfo := #[]) (fl : Nat := 33) (sup : Nat := 0) (ifs : Array Nat := #[]) (fds : Array FieldInfo := #[]) : ClassFile where
  minorVersion := 0
  majorVersion := 65
  constantPool := pool
  accessFlags := fl
  thisClass := this
  superClass := sup
  interfaces := ifs
  fields := fds
  methods := ms
  attributes := attrs
def plain (name : String) (sup : Option ClassId) : Class where
  name := name
  kind := .ordinary
  loader := none
  accessFlags := 33
  super := sup
  interfaces := #[]
  cf := none
  fields := #[]
  methods := #[]
  instanceTypes := #[]
  staticTypes := #[]
  resolved := #[]
  callSites := []
  init := .initialized
  statics := none
  mirror := none

def pool0 : Array CpInfo := pool [(5, u "<init>"), (0, u "()V"), (1, .class_ 10), (1, u "java/lang/Object")] 113

def k0c0 : Code := { maxStack := 0, maxLocals := 1, code := object_method_1_code, exceptionTable := #[], attributes := #[] }
def k0m0 : Method := { name := "<init>", desc := "()V", sig := { parameters := [], returnType := none }, accessFlags := 1, code := some k0c0 }
/-- java/lang/Object -/
def k0 : Class := { plain "java/lang/Object" none with
  accessFlags := 33
  interfaces := #[]
  cf := some (fileOf pool0 8 #[] #[{ accessFlags := 1, nameIndex := 5, descriptorIndex := 6, attributes := #[] }] 33 0 #[] #[])
  fields := #[]
  methods := #[k0m0]
  instanceTypes := #[]
  staticTypes := #[]
  resolved := Array.replicate 124 none
  statics := none }

def pool1 : Array CpInfo := pool [(2, .class_ 4), (1, u "java/lang/Object"), (0, u "<init>"), (0, u "()V"), (0, .methodref 8 9), (0, .class_ 10), (0, .nameAndType 11 12), (0, u "com/example/holdfast/holdfast/internal/RouteEqualsPinLaw"), (0, u "mk"), (0, u "(I)Ljava/lang/String;"), (0, .class_ 14), (0, u "com/example/holdfast/holdfast/internal/Route"), (0, .methodref 13 16), (0, .nameAndType 5 17), (0, u "(Ljava/lang/String;Ljava/lang/String;I)V"), (0, .methodref 8 19), (0, .nameAndType 20 21), (0, u "same"), (0, u "(II)Z"), (0, .methodref 13 23), (0, .nameAndType 24 25), (0, u "equals"), (0, u "(Ljava/lang/Object;)Z"), (0, .methodref 13 27), (0, .nameAndType 28 29), (0, u "hashCode"), (0, u "()I"), (0, .class_ 31), (0, u "java/lang/String"), (0, .methodref 30 33), (0, .nameAndType 5 34), (0, u "([C)V"), (2, u "law"), (0, u "(IIIIIJ)Z")] 3

def k1m0 : Method := { name := "<init>", desc := "()V", sig := { parameters := [], returnType := none }, accessFlags := 1, code := none }
def k1c1 : Code := { maxStack := 5, maxLocals := 23, code := code, exceptionTable := #[], attributes := #[] }
def k1m1 : Method := { name := "law", desc := "(IIIIIJ)Z", sig := { parameters := [.int, .int, .int, .int, .int, .long], returnType := some .boolean }, accessFlags := 9, code := some k1c1 }
def k1c2 : Code := { maxStack := 6, maxLocals := 5, code := method_3_code, exceptionTable := #[], attributes := #[] }
def k1m2 : Method := { name := "mk", desc := "(I)Ljava/lang/String;", sig := { parameters := [.int], returnType := some (.object "java/lang/String") }, accessFlags := 10, code := some k1c2 }
def k1c3 : Code := { maxStack := 3, maxLocals := 3, code := method_4_code, exceptionTable := #[], attributes := #[] }
def k1m3 : Method := { name := "same", desc := "(II)Z", sig := { parameters := [.int, .int], returnType := some .boolean }, accessFlags := 10, code := some k1c3 }
/-- com/example/holdfast/holdfast/internal/RouteEqualsPinLaw -/
def k1 : Class := { plain "com/example/holdfast/holdfast/internal/RouteEqualsPinLaw" (some 0) with
  accessFlags := 49
  interfaces := #[]
  cf := some (fileOf pool1 8 #[] #[{ accessFlags := 1, nameIndex := 5, descriptorIndex := 6, attributes := #[] }, { accessFlags := 9, nameIndex := 37, descriptorIndex := 38, attributes := #[] }, { accessFlags := 10, nameIndex := 11, descriptorIndex := 12, attributes := #[] }, { accessFlags := 10, nameIndex := 20, descriptorIndex := 21, attributes := #[] }] 49 2 #[] #[])
  fields := #[]
  methods := #[k1m0, k1m1, k1m2, k1m3]
  instanceTypes := #[]
  staticTypes := #[]
  resolved := Array.replicate 42 none
  statics := none }

def pool2 : Array CpInfo := pool [(1, .class_ 2), (0, u "java/io/Serializable"), (0, .class_ 4), (0, u "java/lang/Object")] 2

/-- java/io/Serializable -/
def k2 : Class := { plain "java/io/Serializable" (some 0) with
  accessFlags := 1537
  interfaces := #[]
  cf := some (fileOf pool2 1 #[] #[] 1537 3 #[] #[])
  fields := #[]
  methods := #[]
  instanceTypes := #[]
  staticTypes := #[]
  resolved := Array.replicate 7 none
  statics := none }

def pool3 : Array CpInfo := pool [(1, .class_ 2), (0, u "java/lang/Comparable"), (0, .class_ 4), (0, u "java/lang/Object")] 7

/-- java/lang/Comparable -/
def k3 : Class := { plain "java/lang/Comparable" (some 0) with
  accessFlags := 1537
  interfaces := #[]
  cf := some (fileOf pool3 1 #[] #[] 1537 3 #[] #[])
  fields := #[]
  methods := #[]
  instanceTypes := #[]
  staticTypes := #[]
  resolved := Array.replicate 12 none
  statics := none }

def pool4 : Array CpInfo := pool [(2, .class_ 4), (1, u "java/lang/CharSequence"), (42, .class_ 48), (0, u "java/lang/CharSequence$1CodePointIterator"), (10, .class_ 60), (0, u "java/lang/CharSequence$1CharIterator"), (5, .class_ 67), (0, u "java/lang/Object")] 63

/-- java/lang/CharSequence -/
def k4 : Class := { plain "java/lang/CharSequence" (some 0) with
  accessFlags := 1537
  interfaces := #[]
  cf := some (fileOf pool4 2 #[.nestMembers #[47, 59]] #[] 1537 66 #[] #[])
  fields := #[]
  methods := #[]
  instanceTypes := #[]
  staticTypes := #[]
  resolved := Array.replicate 131 none
  statics := none }

def pool5 : Array CpInfo := pool [(1, .class_ 2), (0, u "java/lang/constant/Constable"), (0, .class_ 4), (0, u "java/lang/Object")] 6

/-- java/lang/constant/Constable -/
def k5 : Class := { plain "java/lang/constant/Constable" (some 0) with
  accessFlags := 1537
  interfaces := #[]
  cf := some (fileOf pool5 1 #[] #[] 1537 3 #[] #[])
  fields := #[]
  methods := #[]
  instanceTypes := #[]
  staticTypes := #[]
  resolved := Array.replicate 11 none
  statics := none }

def pool6 : Array CpInfo := pool [(1, .class_ 2), (0, u "java/lang/constant/ConstantDesc"), (0, .class_ 4), (0, u "java/lang/Object")] 32

/-- java/lang/constant/ConstantDesc -/
def k6 : Class := { plain "java/lang/constant/ConstantDesc" (some 0) with
  accessFlags := 1537
  interfaces := #[]
  cf := some (fileOf pool6 1 #[] #[] 1537 3 #[] #[])
  fields := #[]
  methods := #[]
  instanceTypes := #[]
  staticTypes := #[]
  resolved := Array.replicate 37 none
  statics := none }

def pool7 : Array CpInfo := pool [(1, .methodref 2 3), (0, .class_ 4), (0, .nameAndType 5 6), (0, u "java/lang/Object"), (0, u "<init>"), (0, u "()V"), (0, .string 8), (0, u ""), (0, .fieldref 10 11), (0, .class_ 12), (0, .nameAndType 13 14), (0, u "java/lang/String"), (0, u "value"), (0, u "[B"), (0, .fieldref 10 16), (0, .nameAndType 17 18), (0, u "coder"), (0, u "B"), (0, .fieldref 10 20), (0, .nameAndType 21 22), (0, u "hash"), (0, u "I"), (0, .fieldref 10 24), (0, .nameAndType 25 26), (0, u "hashIsZero"), (0, u "Z"), (0, .methodref 10 28), (0, .nameAndType 5 29), (0, u "([CIILjava/lang/Void;)V"), (8, .fieldref 10 39), (0, .nameAndType 40 26), (0, u "COMPACT_STRINGS"), (1, .class_ 44), (1, u "java/lang/StringUTF16"), (0, u "compress"), (1, .methodref 42 48), (0, .nameAndType 49 50), (0, u "coderFromArrayLen"), (0, u "([BI)B"), (56, .class_ 109), (1, u "java/lang/StringLatin1"), (32, u "()Z"), (34, .methodref 42 178), (0, .nameAndType 45 179), (0, u "([CII)[B"), (154, u "()I"), (157, .methodref 10 493), (0, .nameAndType 494 142), (0, u "isLatin1"), (46, .methodref 107 542), (0, .nameAndType 543 544), (0, u "equals"), (0, u "([B[B)Z"), (28, u "(Ljava/lang/Object;)Z"), (1, .class_ 576), (0, u "java/lang/CharSequence"), (22, u "CASE_INSENSITIVE_ORDER"), (0, u "Ljava/util/Comparator;"), (27, .methodref 107 629), (0, .nameAndType 630 631), (0, u "hashCode"), (0, u "([B)I"), (378, u "([C)V"), (90, u "serialPersistentFields"), (0, u "[Ljava/io/ObjectStreamField;"), (0, .class_ 1104), (0, u "java/lang/String$CaseInsensitiveComparator"), (1, .class_ 1107), (0, u "java/io/Serializable"), (0, .class_ 1109), (0, u "java/lang/Comparable"), (0, .class_ 1111), (0, u "java/lang/constant/Constable"), (0, .class_ 1113), (0, u "java/lang/constant/ConstantDesc"), (2, u "serialVersionUID"), (0, u "J"), (3, u "REPL"), (0, u "C"), (2, u "LATIN1"), (1, u "UTF16")] 323

def k7m0 : Method := { name := "<init>", desc := "()V", sig := { parameters := [], returnType := none }, accessFlags := 1, code := none }
def k7c1 : Code := { maxStack := 5, maxLocals := 2, code := jdk_42_method_3_code, exceptionTable := #[], attributes := #[] }
def k7m1 : Method := { name := "<init>", desc := "([C)V", sig := { parameters := [(.array .char)], returnType := none }, accessFlags := 1, code := some k7c1 }
def k7c2 : Code := { maxStack := 2, maxLocals := 3, code := jdk_42_method_66_code, exceptionTable := #[], attributes := #[] }
def k7m2 : Method := { name := "equals", desc := "(Ljava/lang/Object;)Z", sig := { parameters := [(.object "java/lang/Object")], returnType := some .boolean }, accessFlags := 1, code := some k7c2 }
def k7c3 : Code := { maxStack := 2, maxLocals := 2, code := jdk_42_method_78_code, exceptionTable := #[], attributes := #[] }
def k7m3 : Method := { name := "hashCode", desc := "()I", sig := { parameters := [], returnType := some .int }, accessFlags := 1, code := some k7c3 }
def k7c4 : Code := { maxStack := 4, maxLocals := 6, code := jdk_42_method_149_code, exceptionTable := #[], attributes := #[] }
def k7m4 : Method := { name := "<init>", desc := "([CIILjava/lang/Void;)V", sig := { parameters := [(.array .char), .int, .int, (.object "java/lang/Void")], returnType := none }, accessFlags := 2, code := some k7c4 }
def k7c5 : Code := { maxStack := 1, maxLocals := 1, code := jdk_42_method_154_code, exceptionTable := #[], attributes := #[] }
def k7m5 : Method := { name := "isLatin1", desc := "()Z", sig := { parameters := [], returnType := some .boolean }, accessFlags := 0, code := some k7c5 }
/-- java/lang/String -/
def k7 : Class := { plain "java/lang/String" (some 0) with
  accessFlags := 49
  interfaces := #[2, 3, 4, 5, 6]
  cf := some (fileOf pool7 10 #[.nestMembers #[1103]] #[{ accessFlags := 1, nameIndex := 5, descriptorIndex := 6, attributes := #[] }, { accessFlags := 1, nameIndex := 5, descriptorIndex := 1010, attributes := #[] }, { accessFlags := 1, nameIndex := 543, descriptorIndex := 573, attributes := #[] }, { accessFlags := 1, nameIndex := 630, descriptorIndex := 334, attributes := #[] }, { accessFlags := 2, nameIndex := 5, descriptorIndex := 29, attributes := #[] }, { accessFlags := 0, nameIndex := 494, descriptorIndex := 142, attributes := #[] }] 49 2 #[1106, 1108, 575, 1110, 1112] #[{ accessFlags := 18, nameIndex := 13, descriptorIndex := 14, attributes := #[] }, { accessFlags := 18, nameIndex := 17, descriptorIndex := 18, attributes := #[] }, { accessFlags := 2, nameIndex := 21, descriptorIndex := 22, attributes := #[] }, { accessFlags := 2, nameIndex := 25, descriptorIndex := 26, attributes := #[] }, { accessFlags := 26, nameIndex := 1116, descriptorIndex := 1117, attributes := #[] }, { accessFlags := 24, nameIndex := 40, descriptorIndex := 26, attributes := #[] }, { accessFlags := 26, nameIndex := 1101, descriptorIndex := 1102, attributes := #[] }, { accessFlags := 26, nameIndex := 1121, descriptorIndex := 1122, attributes := #[] }, { accessFlags := 25, nameIndex := 599, descriptorIndex := 600, attributes := #[] }, { accessFlags := 24, nameIndex := 1125, descriptorIndex := 18, attributes := #[] }, { accessFlags := 24, nameIndex := 1127, descriptorIndex := 18, attributes := #[] }])
  fields := #[{ name := "value", type := (.array .byte), accessFlags := 18, slot := 0, constantValue := 0 }, { name := "coder", type := .byte, accessFlags := 18, slot := 1, constantValue := 0 }, { name := "hash", type := .int, accessFlags := 2, slot := 2, constantValue := 0 }, { name := "hashIsZero", type := .boolean, accessFlags := 2, slot := 3, constantValue := 0 }, { name := "serialVersionUID", type := .long, accessFlags := 26, slot := 0, constantValue := 0 }, { name := "COMPACT_STRINGS", type := .boolean, accessFlags := 24, slot := 1, constantValue := 0 }, { name := "serialPersistentFields", type := (.array (.object "java/io/ObjectStreamField")), accessFlags := 26, slot := 2, constantValue := 0 }, { name := "REPL", type := .char, accessFlags := 26, slot := 3, constantValue := 0 }, { name := "CASE_INSENSITIVE_ORDER", type := (.object "java/util/Comparator"), accessFlags := 25, slot := 4, constantValue := 0 }, { name := "LATIN1", type := .byte, accessFlags := 24, slot := 5, constantValue := 0 }, { name := "UTF16", type := .byte, accessFlags := 24, slot := 6, constantValue := 0 }]
  methods := #[k7m0, k7m1, k7m2, k7m3, k7m4, k7m5]
  instanceTypes := #[(.array .byte), .byte, .int, .boolean]
  staticTypes := #[.long, .boolean, (.array (.object "java/io/ObjectStreamField")), .char, (.object "java/util/Comparator"), .byte, .byte]
  resolved := Array.replicate 1451 none
  statics := some 0 }

def pool8 : Array CpInfo := pool [(6, .class_ 8), (1, u "java/lang/Object"), (0, u "<init>"), (0, u "()V"), (1, .class_ 14), (1, u "java/lang/StringUTF16"), (31, u "$assertionsDisabled"), (0, u "Z"), (13, u "HI_BYTE_SHIFT"), (0, u "I"), (2, u "LO_BYTE_SHIFT"), (49, .methodref 12 116), (0, .nameAndType 117 118), (0, u "compress"), (0, u "([CI[BII)I"), (3, u "([CII)[B"), (138, u "coderFromArrayLen"), (0, u "([BI)B"), (106, .class_ 371), (1, u "java/lang/StringUTF16$LinesSpliterator"), (58, u "MAX_LENGTH"), (196, .class_ 628), (0, u "java/lang/StringUTF16$CodePointsSpliterator"), (0, .class_ 630), (0, u "java/lang/StringUTF16$CharsSpliterator")] 4

def k8m0 : Method := { name := "<init>", desc := "()V", sig := { parameters := [], returnType := none }, accessFlags := 0, code := none }
def k8c1 : Code := { maxStack := 2, maxLocals := 2, code := jdk_52_method_15_code, exceptionTable := #[], attributes := #[] }
def k8m1 : Method := { name := "coderFromArrayLen", desc := "([BI)B", sig := { parameters := [(.array .byte), .int], returnType := some .byte }, accessFlags := 8, code := some k8c1 }
def k8c2 : Code := { maxStack := 5, maxLocals := 6, code := jdk_52_method_16_code, exceptionTable := #[], attributes := #[] }
def k8m2 : Method := { name := "compress", desc := "([CII)[B", sig := { parameters := [(.array .char), .int, .int], returnType := some (.array .byte) }, accessFlags := 9, code := some k8c2 }
def k8c3 : Code := { maxStack := 3, maxLocals := 7, code := jdk_52_method_21_code, exceptionTable := #[], attributes := #[] }
def k8m3 : Method := { name := "compress", desc := "([CI[BII)I", sig := { parameters := [(.array .char), .int, (.array .byte), .int, .int], returnType := some .int }, accessFlags := 9, code := some k8c3 }
/-- java/lang/StringUTF16 -/
def k8 : Class := { plain "java/lang/StringUTF16" (some 0) with
  accessFlags := 48
  interfaces := #[]
  cf := some (fileOf pool8 12 #[.nestMembers #[627, 629, 369]] #[{ accessFlags := 0, nameIndex := 9, descriptorIndex := 10, attributes := #[] }, { accessFlags := 8, nameIndex := 261, descriptorIndex := 262, attributes := #[] }, { accessFlags := 9, nameIndex := 117, descriptorIndex := 122, attributes := #[] }, { accessFlags := 9, nameIndex := 117, descriptorIndex := 118, attributes := #[] }] 48 6 #[] #[{ accessFlags := 26, nameIndex := 61, descriptorIndex := 62, attributes := #[] }, { accessFlags := 26, nameIndex := 65, descriptorIndex := 62, attributes := #[] }, { accessFlags := 24, nameIndex := 430, descriptorIndex := 62, attributes := #[] }, { accessFlags := 4120, nameIndex := 46, descriptorIndex := 47, attributes := #[] }])
  fields := #[{ name := "HI_BYTE_SHIFT", type := .int, accessFlags := 26, slot := 0, constantValue := 0 }, { name := "LO_BYTE_SHIFT", type := .int, accessFlags := 26, slot := 1, constantValue := 0 }, { name := "MAX_LENGTH", type := .int, accessFlags := 24, slot := 2, constantValue := 0 }, { name := "$assertionsDisabled", type := .boolean, accessFlags := 4120, slot := 3, constantValue := 0 }]
  methods := #[k8m0, k8m1, k8m2, k8m3]
  instanceTypes := #[]
  staticTypes := #[.int, .int, .int, .boolean]
  resolved := Array.replicate 635 none
  statics := none }

def pool9 : Array CpInfo := pool [(1, .methodref 2 3), (0, .class_ 4), (0, .nameAndType 5 6), (0, u "java/lang/Object"), (0, u "<init>"), (0, u "()V"), (0, .class_ 8), (0, u "java/lang/Record")] 13

def k9c0 : Code := { maxStack := 1, maxLocals := 1, code := jdk_30_method_1_code, exceptionTable := #[], attributes := #[] }
def k9m0 : Method := { name := "<init>", desc := "()V", sig := { parameters := [], returnType := none }, accessFlags := 4, code := some k9c0 }
/-- java/lang/Record -/
def k9 : Class := { plain "java/lang/Record" (some 0) with
  accessFlags := 1057
  interfaces := #[]
  cf := some (fileOf pool9 7 #[] #[{ accessFlags := 4, nameIndex := 5, descriptorIndex := 6, attributes := #[] }] 1057 2 #[] #[])
  fields := #[]
  methods := #[k9m0]
  instanceTypes := #[]
  staticTypes := #[]
  resolved := Array.replicate 22 none
  statics := none }

def pool10 : Array CpInfo := pool [(1, .methodref 2 3), (0, .class_ 4), (0, .nameAndType 5 6), (0, u "java/lang/Record"), (0, u "<init>"), (0, u "()V"), (0, .fieldref 8 9), (0, .class_ 10), (0, .nameAndType 11 12), (0, u "com/example/holdfast/holdfast/internal/Route"), (0, u "scheme"), (0, u "Ljava/lang/String;"), (0, .fieldref 8 14), (0, .nameAndType 15 12), (0, u "host"), (0, .fieldref 8 17), (0, .nameAndType 18 19), (0, u "port"), (0, u "I"), (20, .class_ 42), (1, u "java/lang/String"), (4, .methodref 40 48), (0, .nameAndType 49 50), (0, u "equals"), (0, u "(Ljava/lang/Object;)Z"), (17, u "()I"), (39, u "(Ljava/lang/String;Ljava/lang/String;I)V"), (51, .methodref 40 161), (0, .nameAndType 162 68), (0, u "hashCode"), (30, u "REG_NAME_SYMBOLS"), (1, u "MAX_PORT")] 38

def k10c0 : Code := { maxStack := 2, maxLocals := 4, code := prog_34_method_1_code, exceptionTable := #[], attributes := #[] }
def k10m0 : Method := { name := "<init>", desc := "(Ljava/lang/String;Ljava/lang/String;I)V", sig := { parameters := [(.object "java/lang/String"), (.object "java/lang/String"), .int], returnType := none }, accessFlags := 1, code := some k10c0 }
def k10c1 : Code := { maxStack := 2, maxLocals := 3, code := prog_34_method_7_code, exceptionTable := #[], attributes := #[] }
def k10m1 : Method := { name := "equals", desc := "(Ljava/lang/Object;)Z", sig := { parameters := [(.object "java/lang/Object")], returnType := some .boolean }, accessFlags := 1, code := some k10c1 }
def k10c2 : Code := { maxStack := 2, maxLocals := 1, code := prog_34_method_8_code, exceptionTable := #[], attributes := #[] }
def k10m2 : Method := { name := "hashCode", desc := "()I", sig := { parameters := [], returnType := some .int }, accessFlags := 1, code := some k10c2 }
/-- com/example/holdfast/holdfast/internal/Route -/
def k10 : Class := { plain "com/example/holdfast/holdfast/internal/Route" (some 9) with
  accessFlags := 49
  interfaces := #[]
  cf := some (fileOf pool10 8 #[] #[{ accessFlags := 1, nameIndex := 5, descriptorIndex := 108, attributes := #[] }, { accessFlags := 1, nameIndex := 49, descriptorIndex := 50, attributes := #[] }, { accessFlags := 1, nameIndex := 162, descriptorIndex := 68, attributes := #[] }] 49 2 #[] #[{ accessFlags := 18, nameIndex := 11, descriptorIndex := 12, attributes := #[] }, { accessFlags := 18, nameIndex := 15, descriptorIndex := 12, attributes := #[] }, { accessFlags := 18, nameIndex := 18, descriptorIndex := 19, attributes := #[] }, { accessFlags := 26, nameIndex := 193, descriptorIndex := 12, attributes := #[] }, { accessFlags := 26, nameIndex := 195, descriptorIndex := 19, attributes := #[] }])
  fields := #[{ name := "scheme", type := (.object "java/lang/String"), accessFlags := 18, slot := 0, constantValue := 0 }, { name := "host", type := (.object "java/lang/String"), accessFlags := 18, slot := 1, constantValue := 0 }, { name := "port", type := .int, accessFlags := 18, slot := 2, constantValue := 0 }, { name := "REG_NAME_SYMBOLS", type := (.object "java/lang/String"), accessFlags := 26, slot := 0, constantValue := 0 }, { name := "MAX_PORT", type := .int, accessFlags := 26, slot := 1, constantValue := 0 }]
  methods := #[k10m0, k10m1, k10m2]
  instanceTypes := #[(.object "java/lang/String"), (.object "java/lang/String"), .int]
  staticTypes := #[(.object "java/lang/String"), .int]
  resolved := Array.replicate 234 none
  statics := none }

def pool11 : Array CpInfo := pool [(4, .class_ 6), (1, u "java/lang/Object"), (0, u "<init>"), (0, u "()V"), (5, .class_ 16), (1, u "java/lang/StringLatin1"), (28, .class_ 47), (1, u "jdk/internal/util/ArraysSupport"), (9, u "([B)I"), (26, .methodref 45 85), (0, .nameAndType 86 87), (0, u "vectorizedHashCode"), (0, u "(Ljava/lang/Object;IIII)I"), (33, u "$assertionsDisabled"), (0, u "Z"), (98, .class_ 223), (1, u "java/lang/StringLatin1$LinesSpliterator"), (57, u "equals"), (0, u "([B[B)Z"), (15, u "hashCode"), (91, .class_ 391), (0, u "java/lang/StringLatin1$CharsSpliterator")] 3

def k11m0 : Method := { name := "<init>", desc := "()V", sig := { parameters := [], returnType := none }, accessFlags := 0, code := none }
def k11c1 : Code := { maxStack := 3, maxLocals := 3, code := jdk_43_method_13_code, exceptionTable := #[], attributes := #[] }
def k11m1 : Method := { name := "equals", desc := "([B[B)Z", sig := { parameters := [(.array .byte), (.array .byte)], returnType := some .boolean }, accessFlags := 9, code := some k11c1 }
def k11c2 : Code := { maxStack := 5, maxLocals := 1, code := jdk_43_method_21_code, exceptionTable := #[], attributes := #[] }
def k11m2 : Method := { name := "hashCode", desc := "([B)I", sig := { parameters := [(.array .byte)], returnType := some .int }, accessFlags := 9, code := some k11c2 }
/-- java/lang/StringLatin1 -/
def k11 : Class := { plain "java/lang/StringLatin1" (some 0) with
  accessFlags := 48
  interfaces := #[]
  cf := some (fileOf pool11 14 #[.nestMembers #[390, 221]] #[{ accessFlags := 0, nameIndex := 7, descriptorIndex := 8, attributes := #[] }, { accessFlags := 9, nameIndex := 281, descriptorIndex := 282, attributes := #[] }, { accessFlags := 9, nameIndex := 298, descriptorIndex := 57, attributes := #[] }] 48 4 #[] #[{ accessFlags := 4120, nameIndex := 121, descriptorIndex := 122, attributes := #[] }])
  fields := #[{ name := "$assertionsDisabled", type := .boolean, accessFlags := 4120, slot := 0, constantValue := 0 }]
  methods := #[k11m0, k11m1, k11m2]
  instanceTypes := #[]
  staticTypes := #[.boolean]
  resolved := Array.replicate 395 none
  statics := none }

def pool12 : Array CpInfo := pool [(9, u "<init>"), (6, .class_ 18), (1, u "java/lang/Object"), (0, u "()V"), (1, .class_ 23), (1, u "jdk/internal/util/ArraysSupport"), (0, u "LOG2_ARRAY_LONG_INDEX_SCALE"), (0, u "I"), (2, u "U"), (0, u "Ljdk/internal/misc/Unsafe;"), (8, u "BIG_ENDIAN"), (0, u "Z"), (8, u "LOG2_BYTE_BIT_SIZE"), (4, u "LOG2_ARRAY_INT_INDEX_SCALE"), (6, .class_ 61), (0, u "[B"), (0, .methodref 21 63), (0, .nameAndType 64 65), (0, u "signedHashCode"), (0, u "(I[BII)I"), (42, u "JLA"), (0, u "Ljdk/internal/access/JavaLangAccess;"), (11, u "LOG2_ARRAY_BOOLEAN_INDEX_SCALE"), (9, u "LOG2_ARRAY_BYTE_INDEX_SCALE"), (5, u "LOG2_ARRAY_CHAR_INDEX_SCALE"), (5, u "LOG2_ARRAY_SHORT_INDEX_SCALE"), (18, u "LOG2_ARRAY_FLOAT_INDEX_SCALE"), (24, u "LOG2_ARRAY_DOUBLE_INDEX_SCALE"), (89, u "T_BOOLEAN"), (2, u "T_CHAR"), (1, u "T_FLOAT"), (1, u "T_DOUBLE"), (1, u "T_BYTE"), (1, u "T_SHORT"), (1, u "T_INT"), (1, u "T_LONG"), (1, u "SOFT_MAX_ARRAY_LENGTH"), (26, u "vectorizedHashCode"), (0, u "(Ljava/lang/Object;IIII)I")] 55

def k12m0 : Method := { name := "<init>", desc := "()V", sig := { parameters := [], returnType := none }, accessFlags := 2, code := none }
def k12c1 : Code := { maxStack := 4, maxLocals := 5, code := jdk_48_method_4_code, exceptionTable := #[], attributes := #[] }
def k12m1 : Method := { name := "vectorizedHashCode", desc := "(Ljava/lang/Object;IIII)I", sig := { parameters := [(.object "java/lang/Object"), .int, .int, .int, .int], returnType := some .int }, accessFlags := 9, code := some k12c1 }
def k12c2 : Code := { maxStack := 3, maxLocals := 6, code := jdk_48_method_5_code, exceptionTable := #[], attributes := #[] }
def k12m2 : Method := { name := "signedHashCode", desc := "(I[BII)I", sig := { parameters := [.int, (.array .byte), .int, .int], returnType := some .int }, accessFlags := 10, code := some k12c2 }
/-- jdk/internal/util/ArraysSupport -/
def k12 : Class := { plain "jdk/internal/util/ArraysSupport" (some 0) with
  accessFlags := 33
  interfaces := #[]
  cf := some (fileOf pool12 21 #[] #[{ accessFlags := 2, nameIndex := 9, descriptorIndex := 19, attributes := #[] }, { accessFlags := 9, nameIndex := 321, descriptorIndex := 322, attributes := #[] }, { accessFlags := 10, nameIndex := 64, descriptorIndex := 65, attributes := #[] }] 33 16 #[] #[{ accessFlags := 24, nameIndex := 28, descriptorIndex := 29, attributes := #[] }, { accessFlags := 26, nameIndex := 38, descriptorIndex := 39, attributes := #[] }, { accessFlags := 25, nameIndex := 121, descriptorIndex := 25, attributes := #[] }, { accessFlags := 25, nameIndex := 131, descriptorIndex := 25, attributes := #[] }, { accessFlags := 25, nameIndex := 137, descriptorIndex := 25, attributes := #[] }, { accessFlags := 25, nameIndex := 143, descriptorIndex := 25, attributes := #[] }, { accessFlags := 25, nameIndex := 53, descriptorIndex := 25, attributes := #[] }, { accessFlags := 25, nameIndex := 24, descriptorIndex := 25, attributes := #[] }, { accessFlags := 25, nameIndex := 162, descriptorIndex := 25, attributes := #[] }, { accessFlags := 25, nameIndex := 187, descriptorIndex := 25, attributes := #[] }, { accessFlags := 26, nameIndex := 48, descriptorIndex := 25, attributes := #[] }, { accessFlags := 25, nameIndex := 277, descriptorIndex := 25, attributes := #[] }, { accessFlags := 25, nameIndex := 280, descriptorIndex := 25, attributes := #[] }, { accessFlags := 25, nameIndex := 282, descriptorIndex := 25, attributes := #[] }, { accessFlags := 25, nameIndex := 284, descriptorIndex := 25, attributes := #[] }, { accessFlags := 25, nameIndex := 286, descriptorIndex := 25, attributes := #[] }, { accessFlags := 25, nameIndex := 288, descriptorIndex := 25, attributes := #[] }, { accessFlags := 25, nameIndex := 290, descriptorIndex := 25, attributes := #[] }, { accessFlags := 25, nameIndex := 292, descriptorIndex := 25, attributes := #[] }, { accessFlags := 26, nameIndex := 108, descriptorIndex := 109, attributes := #[] }, { accessFlags := 25, nameIndex := 294, descriptorIndex := 25, attributes := #[] }])
  fields := #[{ name := "U", type := (.object "jdk/internal/misc/Unsafe"), accessFlags := 24, slot := 0, constantValue := 0 }, { name := "BIG_ENDIAN", type := .boolean, accessFlags := 26, slot := 1, constantValue := 0 }, { name := "LOG2_ARRAY_BOOLEAN_INDEX_SCALE", type := .int, accessFlags := 25, slot := 2, constantValue := 0 }, { name := "LOG2_ARRAY_BYTE_INDEX_SCALE", type := .int, accessFlags := 25, slot := 3, constantValue := 0 }, { name := "LOG2_ARRAY_CHAR_INDEX_SCALE", type := .int, accessFlags := 25, slot := 4, constantValue := 0 }, { name := "LOG2_ARRAY_SHORT_INDEX_SCALE", type := .int, accessFlags := 25, slot := 5, constantValue := 0 }, { name := "LOG2_ARRAY_INT_INDEX_SCALE", type := .int, accessFlags := 25, slot := 6, constantValue := 0 }, { name := "LOG2_ARRAY_LONG_INDEX_SCALE", type := .int, accessFlags := 25, slot := 7, constantValue := 0 }, { name := "LOG2_ARRAY_FLOAT_INDEX_SCALE", type := .int, accessFlags := 25, slot := 8, constantValue := 0 }, { name := "LOG2_ARRAY_DOUBLE_INDEX_SCALE", type := .int, accessFlags := 25, slot := 9, constantValue := 0 }, { name := "LOG2_BYTE_BIT_SIZE", type := .int, accessFlags := 26, slot := 10, constantValue := 0 }, { name := "T_BOOLEAN", type := .int, accessFlags := 25, slot := 11, constantValue := 0 }, { name := "T_CHAR", type := .int, accessFlags := 25, slot := 12, constantValue := 0 }, { name := "T_FLOAT", type := .int, accessFlags := 25, slot := 13, constantValue := 0 }, { name := "T_DOUBLE", type := .int, accessFlags := 25, slot := 14, constantValue := 0 }, { name := "T_BYTE", type := .int, accessFlags := 25, slot := 15, constantValue := 0 }, { name := "T_SHORT", type := .int, accessFlags := 25, slot := 16, constantValue := 0 }, { name := "T_INT", type := .int, accessFlags := 25, slot := 17, constantValue := 0 }, { name := "T_LONG", type := .int, accessFlags := 25, slot := 18, constantValue := 0 }, { name := "JLA", type := (.object "jdk/internal/access/JavaLangAccess"), accessFlags := 26, slot := 19, constantValue := 0 }, { name := "SOFT_MAX_ARRAY_LENGTH", type := .int, accessFlags := 25, slot := 20, constantValue := 0 }]
  methods := #[k12m0, k12m1, k12m2]
  instanceTypes := #[]
  staticTypes := #[(.object "jdk/internal/misc/Unsafe"), .boolean, .int, .int, .int, .int, .int, .int, .int, .int, .int, .int, .int, .int, .int, .int, .int, .int, .int, (.object "jdk/internal/access/JavaLangAccess"), .int]
  resolved := Array.replicate 378 none
  statics := none }

def pool13 : Array CpInfo := pool [(2, .class_ 4), (1, u "java/lang/Object"), (0, u "<init>"), (0, u "()V"), (17, .class_ 26), (1, u "jdk/internal/util/Preconditions"), (28, .class_ 56), (0, u "jdk/internal/util/Preconditions$4"), (57, .class_ 115), (0, u "jdk/internal/util/Preconditions$1"), (7, u "SIOOBE_FORMATTER"), (0, u "Ljava/util/function/BiFunction;"), (0, .class_ 126), (0, u "jdk/internal/util/Preconditions$2"), (3, u "AIOOBE_FORMATTER"), (0, .class_ 132), (0, u "jdk/internal/util/Preconditions$3"), (3, u "IOOBE_FORMATTER")] 57

def k13m0 : Method := { name := "<init>", desc := "()V", sig := { parameters := [], returnType := none }, accessFlags := 1, code := none }
/-- jdk/internal/util/Preconditions -/
def k13 : Class := { plain "jdk/internal/util/Preconditions" (some 0) with
  accessFlags := 33
  interfaces := #[]
  cf := some (fileOf pool13 24 #[.nestMembers #[55, 131, 125, 114]] #[{ accessFlags := 1, nameIndex := 5, descriptorIndex := 6, attributes := #[] }] 33 2 #[] #[{ accessFlags := 25, nameIndex := 123, descriptorIndex := 124, attributes := #[] }, { accessFlags := 25, nameIndex := 130, descriptorIndex := 124, attributes := #[] }, { accessFlags := 25, nameIndex := 136, descriptorIndex := 124, attributes := #[] }])
  fields := #[{ name := "SIOOBE_FORMATTER", type := (.object "java/util/function/BiFunction"), accessFlags := 25, slot := 0, constantValue := 0 }, { name := "AIOOBE_FORMATTER", type := (.object "java/util/function/BiFunction"), accessFlags := 25, slot := 1, constantValue := 0 }, { name := "IOOBE_FORMATTER", type := (.object "java/util/function/BiFunction"), accessFlags := 25, slot := 2, constantValue := 0 }]
  methods := #[k13m0]
  instanceTypes := #[]
  staticTypes := #[(.object "java/util/function/BiFunction"), (.object "java/util/function/BiFunction"), (.object "java/util/function/BiFunction")]
  resolved := Array.replicate 194 none
  statics := some 1 }

def pool14 : Array CpInfo := pool [(1, u "java/lang/Cloneable"), (0, .class_ 1), (0, u "java/lang/Object"), (0, .class_ 3)] 3

/-- java/lang/Cloneable -/
def k14 : Class := { plain "java/lang/Cloneable" (some 0) with
  accessFlags := 1537
  interfaces := #[]
  cf := some (fileOf pool14 2 #[] #[] 1537 4 #[] #[])
  fields := #[]
  methods := #[]
  instanceTypes := #[]
  staticTypes := #[]
  resolved := Array.replicate 8 none
  statics := none }

/-- the primitive byte -/
def k15 : Class := { plain "byte" none with kind := .primitive 'B', accessFlags := 0x411 }
/-- [B -/
def k16 : Class := { plain "[B" (some 0) with kind := .array 15 .byte, interfaces := #[14, 2], accessFlags := 1041 }

/-- the primitive char -/
def k17 : Class := { plain "char" none with kind := .primitive 'C', accessFlags := 0x411 }
/-- [C -/
def k18 : Class := { plain "[C" (some 0) with kind := .array 17 .char, interfaces := #[14, 2], accessFlags := 1041 }

/-- the primitive int -/
def k19 : Class := { plain "int" none with kind := .primitive 'I', accessFlags := 0x411 }
/-- [I -/
def k20 : Class := { plain "[I" (some 0) with kind := .array 19 .int, interfaces := #[14, 2], accessFlags := 1041 }

def heap : Heap := #[{ cls := 7, slots := #[.long 0, .int 1, .null, .int 0, .null, .int 0, .int 0], vm := .statics 7 },
  { cls := 13, slots := #[.null, .null, .null], vm := .statics 13 }]
def classes : Array Class := #[k0, k1, k2, k3, k4, k5, k6, k7, k8, k9, k10, k11, k12, k13, k14, k15, k16, k17, k18, k19, k20]
def interned : List (Array UInt16 × Addr) := []
def slotsUsed : Nat := 10
def theMethod : MethodId := ⟨1, 1⟩
def args0 : Array Value := #[.int 5, .int 5, .int 5, .int 5, .int 5, .long 5]
def aboutOver (below : List Frame) : State where
  vm := { classes := classes, interned := interned.toArray }
  heap := heap
  slotsUsed := slotsUsed
  threads := #[{ frames := .invoking theMethod args0 :: below }]
def below0 : List Frame := [.native { method := ⟨0, 0⟩, args := #[] }]
def about1 : State := aboutOver below0
def p0 : Program := .bare "" "" ""
def e0 : Env := launch0.env 0 0 0
theorem w_frames : about1.frames = Frame.invoking theMethod args0 :: below0 := rfl
set_option maxRecDepth 65536 in
theorem w_args : argsFit about1.vm theMethod args0 = true := by decide +kernel
set_option maxRecDepth 65536 in
theorem w_heap : heapFits about1 = true := by decide +kernel
set_option maxRecDepth 65536 in
theorem w_runnable : about1.curStatus? = some .runnable := by decide +kernel
set_option maxRecDepth 65536 in
theorem w_alone : about1.alone = true := by decide +kernel
set_option maxRecDepth 65536 in
theorem w_named : about1.methodNamed? x = some theMethod := by decide +kernel
set_option maxRecDepth 65536 in
theorem w_hears : about1.hears theMethod below0 = true := by decide +kernel
set_option maxRecDepth 65536 in
theorem w_ripe : about1.ripe theMethod args0 below0 = true := by decide +kernel
theorem w_running : about1.status = .running := rfl
set_option maxRecDepth 65536 in
theorem w_room : about1.hasRoom e0.platform room_1 = true :=
  launch0.hasRoom_least _ room_1 (by decide +kernel) (by decide +kernel) (by decide +kernel) (by decide +kernel) (by decide +kernel) (by decide +kernel)
theorem allAtoms_all (ts : List Jvm.Cond) (a : Array Jvm.Value) (st : Jvm.State) : (allAtoms ts).before a st = ts.all (fun c => c.before a st) := by
  induction ts with
  | nil => rfl
  | cons c t ih =>
    show (Jvm.Cond.and c (allAtoms t)).before a st = _
    rw [Jvm.Cond.before_and, ih, List.all_cons]
def words1 : List Jvm.Cond := Jvm.Cond.code x code maxLocals ret :: tables_1
/-- a 'code' word, met by the world's own term for the bytes: nothing is compared byte by byte -/
theorem code_word {y : MethodName} {bytes : ByteArray} {mx : Nat} {rt : Option FieldType} {a : Array Value} {s : State} {m : MethodId} {meth : Method} {c : Code} (h1 : s.methodNamed? y = some m) (h2 : s.vm.method? m = some meth) (h3 : meth.code = some c) (h4 : c.code = bytes)
    (h5 : (c.maxLocals == mx && c.exceptionTable.isEmpty && decide (c.maxStack ≤ mostOperands) && decide (meth.sig.returnType = rt) && !meth.locks && decide (parseMethodDescriptor y.desc = some meth.sig)) = true) : (Jvm.Cond.code y bytes mx rt).before a s = true := by
  simp only [Bool.and_eq_true, beq_iff_eq, Bool.not_eq_true', decide_eq_true_eq] at h5
  obtain ⟨⟨⟨⟨⟨g1, g2⟩, g3⟩, g4⟩, g5⟩, g6⟩ := h5
  simp [Cond.before, Cond.holds, Cond.value, h1, h2, h3, h4, g1, g2, g3, g4, g5, g6]
def isCode : Jvm.Cond → Bool
  | .code _ _ _ _ => true
  | _ => false
theorem all_split {L : List Jvm.Cond} {P : Jvm.Cond → Bool} (h1 : L.all (fun c => isCode c || P c) = true) (h2 : ∀ c ∈ L.filter isCode, P c = true) : L.all P = true := by
  refine List.all_eq_true.mpr fun c hc => ?_
  have h := List.all_eq_true.mp h1 c hc
  rcases Bool.eq_false_or_eq_true (isCode c) with hi | hi
  · exact h2 c (List.mem_filter.mpr ⟨hc, hi⟩)
  · simpa [hi] using h
set_option maxRecDepth 65536 in
theorem w_c0 : (Jvm.Cond.code x code maxLocals ret).before args0 about1 = true := code_word (m := ⟨1, 1⟩) (meth := k1m1) (c := k1c1) (by decide +kernel) rfl rfl rfl (by decide +kernel)
set_option maxRecDepth 65536 in
theorem w_c1 : (Jvm.Cond.code ({ cls := "com/example/holdfast/holdfast/internal/RouteEqualsPinLaw", name := "mk", desc := "(I)Ljava/lang/String;" } : Jvm.MethodName) method_3_code (5 : Nat) (Option.some (Jvm.ClassFile.FieldType.object "java/lang/String"))).before args0 about1 = true := code_word (m := ⟨1, 2⟩) (meth := k1m2) (c := k1c2) (by decide +kernel) rfl rfl rfl (by decide +kernel)
set_option maxRecDepth 65536 in
theorem w_c2 : (Jvm.Cond.code ({ cls := "java/lang/String", name := "<init>", desc := "([C)V" } : Jvm.MethodName) jdk_42_method_3_code (2 : Nat) (Option.none : Option Jvm.ClassFile.FieldType)).before args0 about1 = true := code_word (m := ⟨7, 1⟩) (meth := k7m1) (c := k7c1) (by decide +kernel) rfl rfl rfl (by decide +kernel)
set_option maxRecDepth 65536 in
theorem w_c3 : (Jvm.Cond.code ({ cls := "java/lang/String", name := "<init>", desc := "([CIILjava/lang/Void;)V" } : Jvm.MethodName) jdk_42_method_149_code (6 : Nat) (Option.none : Option Jvm.ClassFile.FieldType)).before args0 about1 = true := code_word (m := ⟨7, 4⟩) (meth := k7m4) (c := k7c4) (by decide +kernel) rfl rfl rfl (by decide +kernel)
set_option maxRecDepth 65536 in
theorem w_c4 : (Jvm.Cond.code ({ cls := "java/lang/Object", name := "<init>", desc := "()V" } : Jvm.MethodName) object_method_1_code (1 : Nat) (Option.none : Option Jvm.ClassFile.FieldType)).before args0 about1 = true := code_word (m := ⟨0, 0⟩) (meth := k0m0) (c := k0c0) (by decide +kernel) rfl rfl rfl (by decide +kernel)
set_option maxRecDepth 65536 in
theorem w_c5 : (Jvm.Cond.code ({ cls := "java/lang/StringUTF16", name := "compress", desc := "([CII)[B" } : Jvm.MethodName) jdk_52_method_16_code (6 : Nat) (Option.some (Jvm.ClassFile.FieldType.array Jvm.ClassFile.FieldType.byte))).before args0 about1 = true := code_word (m := ⟨8, 2⟩) (meth := k8m2) (c := k8c2) (by decide +kernel) rfl rfl rfl (by decide +kernel)
set_option maxRecDepth 65536 in
theorem w_c6 : (Jvm.Cond.code ({ cls := "java/lang/StringUTF16", name := "compress", desc := "([CI[BII)I" } : Jvm.MethodName) jdk_52_method_21_code (7 : Nat) (Option.some Jvm.ClassFile.FieldType.int)).before args0 about1 = true := code_word (m := ⟨8, 3⟩) (meth := k8m3) (c := k8c3) (by decide +kernel) rfl rfl rfl (by decide +kernel)
set_option maxRecDepth 65536 in
theorem w_c7 : (Jvm.Cond.code ({ cls := "java/lang/StringUTF16", name := "coderFromArrayLen", desc := "([BI)B" } : Jvm.MethodName) jdk_52_method_15_code (2 : Nat) (Option.some Jvm.ClassFile.FieldType.byte)).before args0 about1 = true := code_word (m := ⟨8, 1⟩) (meth := k8m1) (c := k8c1) (by decide +kernel) rfl rfl rfl (by decide +kernel)
set_option maxRecDepth 65536 in
theorem w_c8 : (Jvm.Cond.code ({ cls := "com/example/holdfast/holdfast/internal/Route", name := "<init>", desc := "(Ljava/lang/String;Ljava/lang/String;I)V" } : Jvm.MethodName) prog_34_method_1_code (4 : Nat) (Option.none : Option Jvm.ClassFile.FieldType)).before args0 about1 = true := code_word (m := ⟨10, 0⟩) (meth := k10m0) (c := k10c0) (by decide +kernel) rfl rfl rfl (by decide +kernel)
set_option maxRecDepth 65536 in
theorem w_c9 : (Jvm.Cond.code ({ cls := "java/lang/Record", name := "<init>", desc := "()V" } : Jvm.MethodName) jdk_30_method_1_code (1 : Nat) (Option.none : Option Jvm.ClassFile.FieldType)).before args0 about1 = true := code_word (m := ⟨9, 0⟩) (meth := k9m0) (c := k9c0) (by decide +kernel) rfl rfl rfl (by decide +kernel)
set_option maxRecDepth 65536 in
theorem w_c10 : (Jvm.Cond.code ({ cls := "com/example/holdfast/holdfast/internal/RouteEqualsPinLaw", name := "same", desc := "(II)Z" } : Jvm.MethodName) method_4_code (3 : Nat) (Option.some Jvm.ClassFile.FieldType.boolean)).before args0 about1 = true := code_word (m := ⟨1, 3⟩) (meth := k1m3) (c := k1c3) (by decide +kernel) rfl rfl rfl (by decide +kernel)
set_option maxRecDepth 65536 in
theorem w_c11 : (Jvm.Cond.code ({ cls := "com/example/holdfast/holdfast/internal/Route", name := "equals", desc := "(Ljava/lang/Object;)Z" } : Jvm.MethodName) prog_34_method_7_code (3 : Nat) (Option.some Jvm.ClassFile.FieldType.boolean)).before args0 about1 = true := code_word (m := ⟨10, 1⟩) (meth := k10m1) (c := k10c1) (by decide +kernel) rfl rfl rfl (by decide +kernel)
set_option maxRecDepth 65536 in
theorem w_c12 : (Jvm.Cond.code ({ cls := "java/lang/String", name := "equals", desc := "(Ljava/lang/Object;)Z" } : Jvm.MethodName) jdk_42_method_66_code (3 : Nat) (Option.some Jvm.ClassFile.FieldType.boolean)).before args0 about1 = true := code_word (m := ⟨7, 2⟩) (meth := k7m2) (c := k7c2) (by decide +kernel) rfl rfl rfl (by decide +kernel)
set_option maxRecDepth 65536 in
theorem w_c13 : (Jvm.Cond.code ({ cls := "java/lang/StringLatin1", name := "equals", desc := "([B[B)Z" } : Jvm.MethodName) jdk_43_method_13_code (3 : Nat) (Option.some Jvm.ClassFile.FieldType.boolean)).before args0 about1 = true := code_word (m := ⟨11, 1⟩) (meth := k11m1) (c := k11c1) (by decide +kernel) rfl rfl rfl (by decide +kernel)
set_option maxRecDepth 65536 in
theorem w_c14 : (Jvm.Cond.code ({ cls := "com/example/holdfast/holdfast/internal/Route", name := "hashCode", desc := "()I" } : Jvm.MethodName) prog_34_method_8_code (1 : Nat) (Option.some Jvm.ClassFile.FieldType.int)).before args0 about1 = true := code_word (m := ⟨10, 2⟩) (meth := k10m2) (c := k10c2) (by decide +kernel) rfl rfl rfl (by decide +kernel)
set_option maxRecDepth 65536 in
theorem w_c15 : (Jvm.Cond.code ({ cls := "java/lang/String", name := "hashCode", desc := "()I" } : Jvm.MethodName) jdk_42_method_78_code (2 : Nat) (Option.some Jvm.ClassFile.FieldType.int)).before args0 about1 = true := code_word (m := ⟨7, 3⟩) (meth := k7m3) (c := k7c3) (by decide +kernel) rfl rfl rfl (by decide +kernel)
set_option maxRecDepth 65536 in
theorem w_c16 : (Jvm.Cond.code ({ cls := "java/lang/String", name := "isLatin1", desc := "()Z" } : Jvm.MethodName) jdk_42_method_154_code (1 : Nat) (Option.some Jvm.ClassFile.FieldType.boolean)).before args0 about1 = true := code_word (m := ⟨7, 5⟩) (meth := k7m5) (c := k7c5) (by decide +kernel) rfl rfl rfl (by decide +kernel)
set_option maxRecDepth 65536 in
theorem w_c17 : (Jvm.Cond.code ({ cls := "java/lang/StringLatin1", name := "hashCode", desc := "([B)I" } : Jvm.MethodName) jdk_43_method_21_code (1 : Nat) (Option.some Jvm.ClassFile.FieldType.int)).before args0 about1 = true := code_word (m := ⟨11, 2⟩) (meth := k11m2) (c := k11c2) (by decide +kernel) rfl rfl rfl (by decide +kernel)
set_option maxRecDepth 65536 in
theorem w_c18 : (Jvm.Cond.code ({ cls := "jdk/internal/util/ArraysSupport", name := "vectorizedHashCode", desc := "(Ljava/lang/Object;IIII)I" } : Jvm.MethodName) jdk_48_method_4_code (5 : Nat) (Option.some Jvm.ClassFile.FieldType.int)).before args0 about1 = true := code_word (m := ⟨12, 1⟩) (meth := k12m1) (c := k12c1) (by decide +kernel) rfl rfl rfl (by decide +kernel)
set_option maxRecDepth 65536 in
theorem w_c19 : (Jvm.Cond.code ({ cls := "jdk/internal/util/ArraysSupport", name := "signedHashCode", desc := "(I[BII)I" } : Jvm.MethodName) jdk_48_method_5_code (6 : Nat) (Option.some Jvm.ClassFile.FieldType.int)).before args0 about1 = true := code_word (m := ⟨12, 2⟩) (meth := k12m2) (c := k12c2) (by decide +kernel) rfl rfl rfl (by decide +kernel)
def codes1 : List Jvm.Cond := [Jvm.Cond.code x code maxLocals ret, Jvm.Cond.code ({ cls := "com/example/holdfast/holdfast/internal/RouteEqualsPinLaw", name := "mk", desc := "(I)Ljava/lang/String;" } : Jvm.MethodName) method_3_code (5 : Nat) (Option.some (Jvm.ClassFile.FieldType.object "java/lang/String")), Jvm.Cond.code ({ cls := "java/lang/String", name := "<init>", desc := "([C)V" } : Jvm.MethodName) jdk_42_method_3_code (2 : Nat) (Option.none : Option Jvm.ClassFile.FieldType), Jvm.Cond.code ({ cls := "java/lang/String", name := "<init>", desc := "([CIILjava/lang/Void;)V" } : Jvm.MethodName) jdk_42_method_149_code (6 : Nat) (Option.none : Option Jvm.ClassFile.FieldType), Jvm.Cond.code ({ cls := "java/lang/Object", name := "<init>", desc := "()V" } : Jvm.MethodName) object_method_1_code (1 : Nat) (Option.none : Option Jvm.ClassFile.FieldType), Jvm.Cond.code ({ cls := "java/lang/StringUTF16", name := "compress", desc := "([CII)[B" } : Jvm.MethodName) jdk_52_method_16_code (6 : Nat) (Option.some (Jvm.ClassFile.FieldType.array Jvm.ClassFile.FieldType.byte)), Jvm.Cond.code ({ cls := "java/lang/StringUTF16", name := "compress", desc := "([CI[BII)I" } : Jvm.MethodName) jdk_52_method_21_code (7 : Nat) (Option.some Jvm.ClassFile.FieldType.int), Jvm.Cond.code ({ cls := "java/lang/StringUTF16", name := "coderFromArrayLen", desc := "([BI)B" } : Jvm.MethodName) jdk_52_method_15_code (2 : Nat) (Option.some Jvm.ClassFile.FieldType.byte), Jvm.Cond.code ({ cls := "com/example/holdfast/holdfast/internal/Route", name := "<init>", desc := "(Ljava/lang/String;Ljava/lang/String;I)V" } : Jvm.MethodName) prog_34_method_1_code (4 : Nat) (Option.none : Option Jvm.ClassFile.FieldType), Jvm.Cond.code ({ cls := "java/lang/Record", name := "<init>", desc := "()V" } : Jvm.MethodName) jdk_30_method_1_code (1 : Nat) (Option.none : Option Jvm.ClassFile.FieldType), Jvm.Cond.code ({ cls := "com/example/holdfast/holdfast/internal/RouteEqualsPinLaw", name := "same", desc := "(II)Z" } : Jvm.MethodName) method_4_code (3 : Nat) (Option.some Jvm.ClassFile.FieldType.boolean), Jvm.Cond.code ({ cls := "com/example/holdfast/holdfast/internal/Route", name := "equals", desc := "(Ljava/lang/Object;)Z" } : Jvm.MethodName) prog_34_method_7_code (3 : Nat) (Option.some Jvm.ClassFile.FieldType.boolean), Jvm.Cond.code ({ cls := "java/lang/String", name := "equals", desc := "(Ljava/lang/Object;)Z" } : Jvm.MethodName) jdk_42_method_66_code (3 : Nat) (Option.some Jvm.ClassFile.FieldType.boolean), Jvm.Cond.code ({ cls := "java/lang/StringLatin1", name := "equals", desc := "([B[B)Z" } : Jvm.MethodName) jdk_43_method_13_code (3 : Nat) (Option.some Jvm.ClassFile.FieldType.boolean), Jvm.Cond.code ({ cls := "com/example/holdfast/holdfast/internal/Route", name := "hashCode", desc := "()I" } : Jvm.MethodName) prog_34_method_8_code (1 : Nat) (Option.some Jvm.ClassFile.FieldType.int), Jvm.Cond.code ({ cls := "java/lang/String", name := "hashCode", desc := "()I" } : Jvm.MethodName) jdk_42_method_78_code (2 : Nat) (Option.some Jvm.ClassFile.FieldType.int), Jvm.Cond.code ({ cls := "java/lang/String", name := "isLatin1", desc := "()Z" } : Jvm.MethodName) jdk_42_method_154_code (1 : Nat) (Option.some Jvm.ClassFile.FieldType.boolean), Jvm.Cond.code ({ cls := "java/lang/StringLatin1", name := "hashCode", desc := "([B)I" } : Jvm.MethodName) jdk_43_method_21_code (1 : Nat) (Option.some Jvm.ClassFile.FieldType.int), Jvm.Cond.code ({ cls := "jdk/internal/util/ArraysSupport", name := "vectorizedHashCode", desc := "(Ljava/lang/Object;IIII)I" } : Jvm.MethodName) jdk_48_method_4_code (5 : Nat) (Option.some Jvm.ClassFile.FieldType.int), Jvm.Cond.code ({ cls := "jdk/internal/util/ArraysSupport", name := "signedHashCode", desc := "(I[BII)I" } : Jvm.MethodName) jdk_48_method_5_code (6 : Nat) (Option.some Jvm.ClassFile.FieldType.int)]
set_option maxRecDepth 65536 in
theorem codes_eq : words1.filter isCode = codes1 := rfl
theorem w_codes : ∀ c ∈ words1.filter isCode, c.before args0 about1 = true := by
  rw [codes_eq]
  intro c hc
  simp only [codes1, List.mem_cons, List.not_mem_nil, or_false] at hc
  rcases hc with rfl | rfl | rfl | rfl | rfl | rfl | rfl | rfl | rfl | rfl | rfl | rfl | rfl | rfl | rfl | rfl | rfl | rfl | rfl | rfl
  · exact w_c0
  · exact w_c1
  · exact w_c2
  · exact w_c3
  · exact w_c4
  · exact w_c5
  · exact w_c6
  · exact w_c7
  · exact w_c8
  · exact w_c9
  · exact w_c10
  · exact w_c11
  · exact w_c12
  · exact w_c13
  · exact w_c14
  · exact w_c15
  · exact w_c16
  · exact w_c17
  · exact w_c18
  · exact w_c19
set_option maxRecDepth 65536 in
theorem w_t1 : (words1.take 24).all (fun c => isCode c || c.before args0 about1) = true := by decide +kernel
set_option maxRecDepth 65536 in
theorem w_t2 : ((words1.drop 24).take 24).all (fun c => isCode c || c.before args0 about1) = true := by decide +kernel
set_option maxRecDepth 65536 in
theorem w_t3 : (((words1.drop 24).drop 24).take 24).all (fun c => isCode c || c.before args0 about1) = true := by decide +kernel
set_option maxRecDepth 65536 in
theorem w_t4 : ((((words1.drop 24).drop 24).drop 24).take 24).all (fun c => isCode c || c.before args0 about1) = true := by decide +kernel
set_option maxRecDepth 65536 in
theorem w_t5 : ((((words1.drop 24).drop 24).drop 24).drop 24).all (fun c => isCode c || c.before args0 about1) = true := by decide +kernel
theorem w_tables : (allAtoms (Jvm.Cond.code x code maxLocals ret :: tables_1)).before args0 about1 = true := by
  rw [allAtoms_all]
  show words1.all (fun c => c.before args0 about1) = true
  refine all_split ?_ w_codes
  rw [← List.take_append_drop 24 words1, List.all_append, w_t1, ← List.take_append_drop 24 (words1.drop 24), List.all_append, w_t2, ← List.take_append_drop 24 ((words1.drop 24).drop 24), List.all_append, w_t3, ← List.take_append_drop 24 (((words1.drop 24).drop 24).drop 24), List.all_append, w_t4, w_t5]
  rfl
set_option maxRecDepth 65536 in
theorem w_rest : rest_1_c.before args0 about1 = true := by decide +kernel
set_option maxRecDepth 65536 in
theorem w_case : (Jvm.Cond.and given_1 narrow_1).before args0 about1 = true := by decide +kernel
set_option maxRecDepth 65536 in
theorem w_consts : constsHeld consts_1 about1 := Jvm.Lit.constsHeldB_iff.mp (by decide +kernel)
theorem w_applies : (headSpec (Jvm.Cond.code x code maxLocals ret :: tables_1) room_1).applies x e0.platform about1 = true :=
  (Spec.applies_iff w_frames).mpr ⟨w_running, w_runnable, w_alone, w_named, w_hears, w_ripe, w_room, w_tables⟩
theorem atStart : AtStart classFile x code maxLocals ret World_1 tables_1 room_1 Calls_1 rest_1 Pre_1 launch0 p0 e0 about1 theMethod args0 below0 :=
  ⟨lists_1, trivial, launch0.admits_env _ _ _, launch0.least_env, fairChoices_fair.cas, fairChoices_fair.clock, w_frames, w_args, w_heap, w_applies, ⟨w_consts, trivial⟩, w_rest, w_case⟩
end start1
theorem witness_1 : WitnessClaimed_1 := ⟨start1.p0, start1.e0, start1.about1, start1.theMethod, start1.args0, start1.below0, start1.atStart⟩
end Jvm.Pilot.@@N@@
