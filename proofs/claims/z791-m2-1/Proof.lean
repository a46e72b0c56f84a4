import JvmDerived
import JvmDerived.Pilot.@@N@@Statement
import JvmDerived.Pilot.@@N@@Code
set_option linter.unusedVariables false
set_option linter.unusedSimpArgs false
namespace Jvm.RoadKit
open Sem ClassFile Op Lib Jvm.Stand Jvm.Free Jvm.LawKit
section New
variable {p : Program} {l : Launch} {e : Env} {R : Room} {s : State} {m : MethodId} {args : Array Value} {below : List Frame} {meth : Method} {c : Code} {T : State} {locs : List Loc} {cells slots : Nat}
theorem retI (X : Stand p l e R s m args below meth c T locs cells slots) (hx : p.tables.exec = Jvm.exec) {pc : Nat} {Ls : Array Slot} {z : Int32} {rest : List Value} (hret : meth.sig.returnType = some .int) (hd : decode c.code pc = .ok (.ireturn, 1)) {fs : List Frame}
    (hl : ∀ (f : JFrame) (acts : List Action), f.method = m → f.locked = none → f.entered = [] → (doReturn e (T.setTop f) acts (some (.int z))).1 = T.setFrames fs) : Steps p.tables e below (T.setTop (mkF m pc Ls (.int z :: rest))) (T.setFrames fs) := by
  have hm' : T.vm.method? m = some meth := X.method'
  have hn : narrow .int (.int z) = .int z := rfl
  show Steps p.tables e below (T.setTop { method := m, pc := pc, locals := Ls, stack := _ :: rest, locked := none }) _
  jvm_step X.here [X.here.top, hx, hd, hm', hret, hn]
  first | (intro acts; rw [hl _ acts rfl rfl rfl]) | rw [hl _ _ rfl rfl rfl]
  exact Steps.refl _
end New
end Jvm.RoadKit
@@BLOCK:NumsL.lean.txt@@
namespace Jvm.Pilot.@@N@@
open Jvm Jvm.ClassFile Sem Op Lib Jvm.Free Jvm.Stand Jvm.LawKit Jvm.RoadKit Bundle Jvm.Pilot.@@N@@.Jvm.D
def own_End (p : Program) (e : Env) (below : List Frame) (P : Outcome → State → Prop) (S : State) : Prop :=
  ∃ s₂ o, Steps p.tables e below S s₂ ∧ s₂.status = .running ∧ Ended s₂ below o ∧ P o s₂
abbrev own_Met (l : Launch) (Z : State) (y : MethodName) (bytes : ByteArray) (maxL : Nat) (rt : Option FieldType) (ws : List Jvm.Cond) (rm : Room) (as' : Array Value) (h0 : Heap) (Q : Option Value → Heap → List Loc → Prop) : Prop :=
  MetFree l y (head1 (Jvm.Cond.code y bytes maxL rt :: ws) rm) (fun a U => a = as' ∧ Z.Warmed39 U.vm ∧ U.heap = h0) (fun _ _ _ _ _ => True) (fun _ U o U' => ∃ v L, o = .returned v ∧ Q v U'.heap L ∧ FrameEnd U o U' L rm.cells rm.slots)
def own_Ok (Q : Option Value → Heap → List Loc → Prop) (s : State) (kc ks : Nat) (P : Outcome → State → Prop) : Prop := ∀ v U L, Q v U.heap L → FrameEnd s (.returned v) U L kc ks → P (.returned v) U
section Own
variable {p : Program} {l : Launch} {e : Env} {R : Room} {s : State} {m : MethodId} {args : Array Value} {below : List Frame} {meth : Method} {c : Code} {T : State} {locs : List Loc} {cells slots : Nat} {Z : State} {a0 : Array Value} {h : Heap} {P : Outcome → State → Prop}
theorem own_st {S S' : State} (q : ∀ t, Steps p.tables e below S' t → Steps p.tables e below S t) (k : own_End p e below P S') : own_End p e below P S := by
  obtain ⟨a, b, c, d⟩ := k
  exact ⟨a, b, q _ c, d⟩
theorem own_tr {S S' : State} (q : Steps p.tables e below S S') (k : own_End p e below P S') : own_End p e below P S := own_st (fun _ r => q.trans r) k
theorem own_enter {y : MethodName} {bytes : ByteArray} {maxL : Nat} {rt : Option FieldType} {ws : List Jvm.Cond} {rm : Room} {as' : Array Value} {h0 : Heap} {Q : Option Value → Heap → List Loc → Prop} (hpl : plainFor y = true)
    (body : ∀ (p : Program) (e : Env) (s : State) (m : MethodId) (below : List Frame) (meth : Method) (c : Code) (s₁ : State) (P : Outcome → State → Prop), p.tables.exec = Jvm.exec → c.code = bytes → c.maxLocals = maxL → meth.sig.returnType = rt → meth.locks = false → s.vm.findClass y.cls = some m.cls → meth.name = y.name → Z.Warmed39 s.vm →
      Stand p l e rm s m as' below meth c s₁ [] 0 0 → s₁.heap = h0 → own_Ok Q s rm.cells rm.slots P → own_End p e below P (s₁.setTop (entryFrame m as' maxL))) :
    own_Met l Z y bytes maxL rt ws rm as' h0 Q := by
  refine MetFree.of_bodySF hpl hisR ?_
  intro p e s m args below meth c s₁ Bd hml0 hP hK
  obtain ⟨rfl, hZ, hh⟩ := hP
  exact body p e s m below meth c s₁ _ Bd.exec Bd.bytes hml0 Bd.returns Bd.notSynchronized (findClass_of_methodNamed Bd.named) (name_of_methodNamed Bd.named Bd.method).1 hZ (Stand.of_body Bd) (by rw [← hh, Bd.state]; rfl) (fun v U L q f => ⟨v, L, rfl, q, f⟩)
theorem own_cast {g g' : JFrame} (q : g = g') (k : own_End p e below P (T.setTop g')) : own_End p e below P (T.setTop g) := q ▸ k
theorem own_retI (X : Stand p l e R s m args below meth c T locs cells slots) (hx : p.tables.exec = Jvm.exec) (hlk : meth.locks = false) {kc ks : Nat} {Q : Option Value → Heap → List Loc → Prop} (hP : own_Ok Q s kc ks P)
    {pc : Nat} {Ls : Array Slot} {z : Int32} {rest : List Value} (hret : meth.sig.returnType = some .int) (hd : decode c.code pc = .ok (.ireturn, 1)) (h1 : cells ≤ kc) (h2 : slots ≤ ks) (hq : Q (some (.int z)) T.heap locs) : own_End p e below P (T.setTop (mkF m pc Ls (.int z :: rest))) := by
  obtain ⟨fs, hr, hrun, hended, hW, hsame⟩ := X.leave (v := some (.int z)) (fun h => by rw [hret] at h; cases h) hlk
  exact ⟨_, _, retI X hx hret hd hr, hrun, hended, hP _ _ locs hq ⟨⟨_, rfl⟩, hW, hsame.mono h1 h2⟩⟩
theorem own_retN (X : Stand p l e R s m args below meth c T locs cells slots) (hx : p.tables.exec = Jvm.exec) (hlk : meth.locks = false) {kc ks : Nat} {Q : Option Value → Heap → List Loc → Prop} (hP : own_Ok Q s kc ks P)
    {pc : Nat} {Ls : Array Slot} {z : Int32} {t : FieldType} {rest : List Value} (ht : t = .boolean ∨ t = .byte ∨ t = .char ∨ t = .short) (hret : meth.sig.returnType = some t) (hd : decode c.code pc = .ok (.ireturn, 1)) (h1 : cells ≤ kc) (h2 : slots ≤ ks) (hq : Q (some (.int (nar t z))) T.heap locs) : own_End p e below P (T.setTop (mkF m pc Ls (.int z :: rest))) := by
  obtain ⟨fs, hr, hrun, hended, hW, hsame⟩ := X.leave (v := some (.int (nar t z))) (fun h => by rw [hret] at h; cases h) hlk
  exact ⟨_, _, retN X hx hret ht hd hr, hrun, hended, hP _ _ locs hq ⟨⟨_, rfl⟩, hW, hsame.mono h1 h2⟩⟩
theorem own_retL (X : Stand p l e R s m args below meth c T locs cells slots) (hx : p.tables.exec = Jvm.exec) (hlk : meth.locks = false) {kc ks : Nat} {Q : Option Value → Heap → List Loc → Prop} (hP : own_Ok Q s kc ks P)
    {pc : Nat} {Ls : Array Slot} {z : Int64} {rest : List Value} (hret : meth.sig.returnType = some .long) (hd : decode c.code pc = .ok (.lreturn, 1)) (h1 : cells ≤ kc) (h2 : slots ≤ ks) (hq : Q (some (.long z)) T.heap locs) : own_End p e below P (T.setTop (mkF m pc Ls (.long z :: rest))) := by
  obtain ⟨fs, hr, hrun, hended, hW, hsame⟩ := X.leave (v := some (.long z)) (fun h => by rw [hret] at h; cases h) hlk
  exact ⟨_, _, retOut X hx hret rfl (Or.inr (Or.inl ⟨rfl, rfl, z, rfl⟩)) hd hr, hrun, hended, hP _ _ locs hq ⟨⟨_, rfl⟩, hW, hsame.mono h1 h2⟩⟩
theorem own_retR (X : Stand p l e R s m args below meth c T locs cells slots) (hx : p.tables.exec = Jvm.exec) (hlk : meth.locks = false) {kc ks : Nat} {Q : Option Value → Heap → List Loc → Prop} (hP : own_Ok Q s kc ks P)
    {pc : Nat} {Ls : Array Slot} {w : Value} {t : FieldType} {rest : List Value} (hw : w.isRef = true) (ht : t.isReference = true) (hret : meth.sig.returnType = some t) (hd : decode c.code pc = .ok (.areturn, 1)) (h1 : cells ≤ kc) (h2 : slots ≤ ks) (hq : Q (some w) T.heap locs) : own_End p e below P (T.setTop (mkF m pc Ls (w :: rest))) := by
  obtain ⟨fs, hr, hrun, hended, hW, hsame⟩ := X.leave (v := some w) (fun h => by rw [hret] at h; cases h) hlk
  have hn : narrow t w = w := by rcases ref_cases hw with rfl | ⟨a, rfl⟩ <;> cases t <;> rfl
  exact ⟨_, _, retOut X hx hret hn (Or.inr (Or.inr (Or.inr (Or.inr ⟨rfl, ht, hw⟩)))) hd hr, hrun, hended, hP _ _ locs hq ⟨⟨_, rfl⟩, hW, hsame.mono h1 h2⟩⟩
theorem own_retV (X : Stand p l e R s m args below meth c T locs cells slots) (hx : p.tables.exec = Jvm.exec) (hlk : meth.locks = false) {kc ks : Nat} {Q : Option Value → Heap → List Loc → Prop} (hP : own_Ok Q s kc ks P)
    {pc : Nat} {Ls : Array Slot} (hret : meth.sig.returnType = none) (hd : decode c.code pc = .ok (.return_, 1)) (h1 : cells ≤ kc) (h2 : slots ≤ ks) (hq : Q none T.heap locs) : own_End p e below P (T.setTop (mkF m pc Ls [])) := by
  obtain ⟨fs, hr, hrun, hended, hW, hsame⟩ := X.leave (v := none) (fun _ => rfl) hlk
  exact ⟨_, _, X.returnOut hx hret hd hr, hrun, hended, hP _ _ locs hq ⟨⟨_, rfl⟩, hW, hsame.mono h1 h2⟩⟩
theorem own_callS (X : Stand p l e R s m args below meth c T locs cells slots) (hx : p.tables.exec = Jvm.exec) (hZ : Z.Warmed39 s.vm) {own : String} {index : Nat} {y : MethodName} {bytes : ByteArray} {maxL : Nat} {rt : Option FieldType} {rm : Room} {as' : Array Value} {Q : Option Value → Heap → List Loc → Prop}
    (hown : s.vm.findClass own = some m.cls) (w1 : (Jvm.Cond.methodLink own index y).before a0 Z = true) (w2 : (Jvm.Cond.static y).before a0 Z = true) (w3 : (Jvm.Cond.initialized y.cls).before a0 Z = true) (w4 : (Jvm.Cond.code y bytes maxL rt).before a0 Z = true) (hy : y.cls ≠ "java/lang/invoke/MethodHandle" ∧ y.cls ≠ "java/lang/invoke/VarHandle")
    (hM : own_Met l Z y bytes maxL rt [] rm as' h Q) (W : Nat) (hf : rm.frames + 1 ≤ R.frames) (hl : W + (maxL + 11) + rm.locals ≤ R.locals) (eT : T.heap = h) (hc : cells + rm.cells ≤ R.cells) (hs : slots + rm.slots ≤ R.slots)
    {g : JFrame} (hg : g.method = m) (hsize : g.locals.size = c.maxLocals) {argsL rest : List Value} (ha : argsL.toArray = as') (hlen : ∀ sig, parseMethodDescriptor y.desc = some sig → argsL.length = sig.parameters.length) (hstack : g.stack = argsL.reverse ++ rest) (hW : 2 * g.monitorRoom + (rest.map fun v => v.category).sum ≤ W) (hdg : decode c.code g.pc = .ok (.invokestatic index, 3))
    (k : ∀ v T' L, Stand p l e R s m args below meth c T' (locs ++ L) (cells + rm.cells) (slots + rm.slots) → Q v T'.heap L → own_End p e below P (T'.setTop { g with pc := g.pc + 3, stack := v.toList ++ rest })) : own_End p e below P (T.setTop g) := by
  obtain ⟨v, vm₁, ⟨T', L', k', n'⟩, -, X', ⟨L, hQ, h1, h2, h3⟩, st⟩ := Jvm.LawKit.callS X hx hown (mvT hZ w1) (mvT hZ w2) (mvT hZ w3) (mvT hZ w4) hy (backOf (W := W) hM hZ w4 w3 hf hl) hg hsize hlen hstack hW hdg (fun _ _ => ⟨ha, eT, hc, hs⟩)
  dsimp only [Pt.U, Pt.locs, Pt.cells, Pt.slots] at X' h1 h2 h3 st hQ
  subst h1 h2 h3
  exact own_st st (k v T' L X' hQ)
theorem own_callI (X : Stand p l e R s m args below meth c T locs cells slots) (hx : p.tables.exec = Jvm.exec) (hZ : Z.Warmed39 s.vm) {own : String} {index : Nat} {y : MethodName} {bytes : ByteArray} {maxL : Nat} {rm : Room} {as' : Array Value} {Q : Option Value → Heap → List Loc → Prop}
    (hy1 : y.name = "<init>") (hown : s.vm.findClass own = some m.cls) (w1 : (Jvm.Cond.methodLink own index y).before a0 Z = true) (w2 : (Jvm.Cond.instanceMethod y).before a0 Z = true) (w3 : (Jvm.Cond.initialized y.cls).before a0 Z = true) (w4 : (Jvm.Cond.code y bytes maxL none).before a0 Z = true) (hy : y.cls ≠ "java/lang/invoke/MethodHandle" ∧ y.cls ≠ "java/lang/invoke/VarHandle")
    (hM : own_Met l Z y bytes maxL none [] rm as' h Q) (W : Nat) (hf : rm.frames + 1 ≤ R.frames) (hl : W + (maxL + 11) + rm.locals ≤ R.locals) (eT : T.heap = h) (hc : cells + rm.cells ≤ R.cells) (hs : slots + rm.slots ≤ R.slots)
    {g : JFrame} (hg : g.method = m) (hsize : g.locals.size = c.maxLocals) {a : Addr} {argsL rest : List Value} (ha : (Value.ref a :: argsL).toArray = as') (hlen : ∀ sig, parseMethodDescriptor y.desc = some sig → argsL.length = sig.parameters.length) (hstack : g.stack = argsL.reverse ++ .ref a :: rest) (hW : 2 * g.monitorRoom + (rest.map fun v => v.category).sum ≤ W) (hdg : decode c.code g.pc = .ok (.invokespecial index, 3))
    (k : ∀ v T' L, Stand p l e R s m args below meth c T' (locs ++ L) (cells + rm.cells) (slots + rm.slots) → Q v T'.heap L → own_End p e below P (T'.setTop { g with pc := g.pc + 3, stack := v.toList ++ rest })) : own_End p e below P (T.setTop g) := by
  obtain ⟨v, vm₁, ⟨T', L', k', n'⟩, -, X', ⟨L, hQ, h1, h2, h3⟩, st⟩ := X.specialBack hx hy1 hown (mvT hZ w1) (mvT hZ w2) (mvT hZ w4) hy (backOf (W := W) hM hZ w4 w3 hf hl) hg hsize (Steps.refl _) hlen hstack hW hdg (fun _ _ => ⟨ha, eT, hc, hs⟩)
  dsimp only [Pt.U, Pt.locs, Pt.cells, Pt.slots] at X' h1 h2 h3 st hQ
  subst h1 h2 h3
  exact own_tr st (k v T' L X' hQ)
theorem own_callV (X : Stand p l e R s m args below meth c T locs cells slots) (hx : p.tables.exec = Jvm.exec) (hZ : Z.Warmed39 s.vm) {own C : String} {index : Nat} {y z : MethodName} {bytes : ByteArray} {maxL : Nat} {rt : Option FieldType} {rm : Room} {as' : Array Value} {Q : Option Value → Heap → List Loc → Prop}
    (hown : s.vm.findClass own = some m.cls) (w1 : (Jvm.Cond.methodLink own index y).before a0 Z = true) (w2 : (Jvm.Cond.declares y).before a0 Z = true) (hnf : NotFace s y) (w5 : (Jvm.Cond.selects C y z).before a0 Z = true) (w6 : (Jvm.Cond.instanceMethod z).before a0 Z = true) (w3 : (Jvm.Cond.initialized z.cls).before a0 Z = true) (w4 : (Jvm.Cond.code z bytes maxL rt).before a0 Z = true) (hy : y.cls ≠ "java/lang/invoke/MethodHandle" ∧ y.cls ≠ "java/lang/invoke/VarHandle")
    {a : Addr} (E : Exa Z h a C) (hM : own_Met l Z z bytes maxL rt [] rm as' h Q) (W : Nat) (hf : rm.frames + 1 ≤ R.frames) (hl : W + (maxL + 11) + rm.locals ≤ R.locals) (eT : T.heap = h) (hc : cells + rm.cells ≤ R.cells) (hs : slots + rm.slots ≤ R.slots)
    {g : JFrame} (hg : g.method = m) (hsize : g.locals.size = c.maxLocals) {argsL rest : List Value} (ha : (Value.ref a :: argsL).toArray = as') (hlen : ∀ sig, parseMethodDescriptor y.desc = some sig → argsL.length = sig.parameters.length) (hstack : g.stack = argsL.reverse ++ .ref a :: rest) (hW : 2 * g.monitorRoom + (rest.map fun v => v.category).sum ≤ W) (hdg : decode c.code g.pc = .ok (.invokevirtual index, 3))
    (k : ∀ v T' L, Stand p l e R s m args below meth c T' (locs ++ L) (cells + rm.cells) (slots + rm.slots) → Q v T'.heap L → own_End p e below P (T'.setTop { g with pc := g.pc + 3, stack := v.toList ++ rest })) : own_End p e below P (T.setTop g) := by
  obtain ⟨cB, kB, q1, q2, q3⟩ := isOf hZ eT E
  obtain ⟨v, vm₁, ⟨T', L', k', n'⟩, -, X', ⟨L, hQ, h1, h2, h3⟩, st⟩ := X.virtualBack hx (y := y) (z := z) hown (mvT hZ w1) (mvT hZ w2) hnf (mvT hZ w5) (mvT hZ w6) hy (backOf (W := W) hM hZ w4 w3 hf hl) q1 q3 hg hsize (Steps.refl _) hlen hstack hW hdg (fun _ _ => ⟨ha, eT, hc, hs⟩)
  dsimp only [Pt.U, Pt.locs, Pt.cells, Pt.slots] at X' h1 h2 h3 st hQ
  subst h1 h2 h3
  exact own_tr st (k v T' L X' hQ)
theorem own_callU (X : Stand p l e R s m args below meth c T locs cells slots) (hx : p.tables.exec = Jvm.exec) (hZ : Z.Warmed39 s.vm) {own C owner : String} {index : Nat} {x y : MethodName} {bytes : ByteArray} {maxL : Nat} {rt : Option FieldType} {rm : Room} {as' : Array Value} {Q : Option Value → Heap → List Loc → Prop}
    (hown : s.vm.findClass own = some m.cls) (w1 : (Jvm.Cond.methodLink own index x).before a0 Z = true) (w2 : (Jvm.Cond.sameMethod x.cls owner x.name x.desc).before a0 Z = true) (w7 : (Jvm.Cond.declares ⟨owner, x.name, x.desc⟩).before a0 Z = true) (hy : owner ≠ "java/lang/invoke/MethodHandle" ∧ owner ≠ "java/lang/invoke/VarHandle") (w5 : (Jvm.Cond.selects C x y).before a0 Z = true) (w6 : (Jvm.Cond.instanceMethod y).before a0 Z = true) (w3 : (Jvm.Cond.initialized y.cls).before a0 Z = true) (w4 : (Jvm.Cond.code y bytes maxL rt).before a0 Z = true)
    {a : Addr} (E : Exa Z h a C) (hM : own_Met l Z y bytes maxL rt [] rm as' h Q) (W : Nat) (hf : rm.frames + 1 ≤ R.frames) (hl : W + (maxL + 11) + rm.locals ≤ R.locals) (eT : T.heap = h) (hc : cells + rm.cells ≤ R.cells) (hs : slots + rm.slots ≤ R.slots)
    {g : JFrame} (hg : g.method = m) (hsize : g.locals.size = c.maxLocals) {argsL rest : List Value} (ha : (Value.ref a :: argsL).toArray = as') (hlen : ∀ sig, parseMethodDescriptor x.desc = some sig → argsL.length = sig.parameters.length) (hstack : g.stack = argsL.reverse ++ .ref a :: rest) (hW : 2 * g.monitorRoom + (rest.map fun v => v.category).sum ≤ W) (hdg : decode c.code g.pc = .ok (.invokevirtual index, 3))
    (k : ∀ v T' L, Stand p l e R s m args below meth c T' (locs ++ L) (cells + rm.cells) (slots + rm.slots) → Q v T'.heap L → own_End p e below P (T'.setTop { g with pc := g.pc + 3, stack := v.toList ++ rest })) : own_End p e below P (T.setTop g) := by
  obtain ⟨cB, kB, q1, q2, q3⟩ := isOf hZ eT E
  obtain ⟨v, vm₁, ⟨T', L', k', n'⟩, -, X', ⟨L, hQ, h1, h2, h3⟩, st⟩ := X.virtualBackUp hx (x := x) (y := y) hown (mvT hZ w1) (mvT hZ w2) (mvT hZ w7) hy (mvT hZ w5) (mvT hZ w6) (backOf (W := W) hM hZ w4 w3 hf hl) q1 q3 hg hsize (Steps.refl _) hlen hstack hW hdg (fun _ _ => ⟨ha, eT, hc, hs⟩)
  dsimp only [Pt.U, Pt.locs, Pt.cells, Pt.slots] at X' h1 h2 h3 st hQ
  subst h1 h2 h3
  exact own_tr st (k v T' L X' hQ)
theorem own_tsw (X : Stand p l e R s m args below meth c T locs cells slots) (hx : p.tables.exec = Jvm.exec) {pc len pc' : Nat} {Ls : Array Slot} {rest : List Value} {dflt low high o : Int} {offs : Array Int} {i : Int32} (hd : decode c.code pc = .ok (.tableswitch dflt low high offs, len)) (hin : ¬ (i.toInt < low ∨ i.toInt > high)) (hoff : offs[(i.toInt - low).toNat]? = some o) (ho : 0 ≤ (pc : Int) + o) (hp : ((pc : Int) + o).toNat = pc')
    (k : own_End p e below P (T.setTop (mkF m pc' Ls rest))) : own_End p e below P (T.setTop (mkF m pc Ls (.int i :: rest))) :=
  own_st (fun _ r => XS.tswIn (g := mkF m pc Ls (.int i :: rest)) X.here hx rfl rfl hd rfl hin hoff ho hp r) k
theorem own_lt {x y : Int64} : lcmpW x y < 0 ↔ x < y := by rw [lcW]; exact lc_lt x y
theorem own_gt {x y : Int64} : 0 < lcmpW x y ↔ y < x := by rw [lcW]; exact lc_gt x y
theorem own_eq {x y : Int64} : lcmpW x y = 0 ↔ x = y := by rw [lcW]; exact lc_eq x y
theorem own_eqInt {first : State} {o : Option Outcome} {idx : List Nat} {t : Term} {k : Int32} (q : (Jvm.Cond.eq t (.int k)).value args first o s idx = some true) : t.eval args first o idx s = some (.int k) := by
  obtain ⟨x, y, e1, e2, k1, k2⟩ := cmp_v (Or.inl q)
  rw [Term.int_eval] at e2
  cases e2
  obtain ⟨z, rfl⟩ := k2
  rw [e1, gotT (Cond.eq_ints e1 (Term.int_eval k)) q]
end Own
/-- an int[] at a that holds xs -/
def own_IA (Z : State) (h : Heap) (a : Addr) (xs : List Int32) : Prop :=
  ∃ k z, Arv Z h a k .int z (xs.map Value.int) (.int 0) ∧ z.toNatClampNeg = xs.length ∧ Exa Z h a "[I"
section OwnA
variable {p : Program} {l : Launch} {e : Env} {R : Room} {s : State} {m : MethodId} {args : Array Value} {below : List Frame} {meth : Method} {c : Code} {T : State} {locs : List Loc} {cells slots : Nat} {Z : State} {a0 : Array Value} {h h' : Heap} {P : Outcome → State → Prop} {a b : Addr} {xs ys : List Int32}
theorem own_IA.lt (F : own_IA Z h a xs) : a < h.size := by obtain ⟨k, z, A, -⟩ := F; exact A.lt
theorem own_IA.ext (F : own_IA Z h a xs) (E : Ext h h') : own_IA Z h' a xs := by obtain ⟨k, z, A, q, X⟩ := F; exact ⟨k, z, A.ext E, q, X.ext E⟩
theorem own_IA.other {sl : Nat} {v : Value} (F : own_IA Z h a xs) (W : Wr h h' b sl v) (ne : a ≠ b) : own_IA Z h' a xs := by obtain ⟨k, z, A, q, X⟩ := F; exact ⟨k, z, A.other W ne, q, X.wr W⟩
theorem own_IA.keep {ws : List Addr} (F : own_IA Z h a xs) (K : Keep h h' ws) (q : a ∉ ws) : own_IA Z h' a xs := by obtain ⟨k, z, A, r, X⟩ := F; exact ⟨k, z, A.keep K q, r, X.keep K⟩
theorem own_IA.len (F : own_IA Z h a xs) : xs.length < 2 ^ 31 := by obtain ⟨k, z, ⟨cl, -, -, -, q, -⟩, r, -⟩ := F; rw [← r]; exact (back32 q).2
theorem own_IA.ins (F : own_IA Z h a xs) : Ins Z h a "[I" true := by obtain ⟨k, z, A, r, X⟩ := F; exact Ins.self X
theorem own_nat {j : Int32} {i : Nat} (hj : j.toInt = (i : Int)) : ¬ j < 0 ∧ j.toNatClampNeg = i := by
  refine ⟨fun q => by rw [Int32.lt_iff_toInt_lt] at q; rw [hj] at q; have : (0 : Int32).toInt = 0 := by decide
                      omega, ?_⟩
  show j.toInt.toNat = i
  rw [hj]; rfl
theorem own_alen (X : Stand p l e R s m args below meth c T locs cells slots) (hx : p.tables.exec = Jvm.exec) (hZ : Z.Warmed39 s.vm) (eT : T.heap = h) (F : own_IA Z h a xs) {g : JFrame} (hg : g.method = m) {rest : List Value} (hs : g.stack = .ref a :: rest) (hd : decode c.code g.pc = .ok (.arraylength, 1))
    (k : own_End p e below P (T.setTop { g with pc := g.pc + 1, stack := .int (Int32.ofNat xs.length) :: rest })) : own_End p e below P (T.setTop g) := by
  obtain ⟨k', z, ⟨cl, Ar, q1, S, N, H, G⟩, r, -⟩ := F
  refine own_st (fun _ => X.arraylength hx (by rw [eT]; exact Ar.1) (State.isArrayOf_alike hZ.alike Ar.2.1) hg hs hd _) ?_
  rw [S, r]; exact k
theorem own_iaload (X : Stand p l e R s m args below meth c T locs cells slots) (hx : p.tables.exec = Jvm.exec) (hZ : Z.Warmed39 s.vm) (eT : T.heap = h) (F : own_IA Z h a xs) {j v : Int32} {i : Nat} (hj : j.toInt = (i : Int)) (hv : xs[i]? = some v) {g : JFrame} (hg : g.method = m) {rest : List Value} (hs : g.stack = .int j :: .ref a :: rest) (hd : decode c.code g.pc = .ok (.iaload, 1))
    (k : own_End p e below P (T.setTop { g with pc := g.pc + 1, stack := .int v :: rest })) : own_End p e below P (T.setTop g) := by
  obtain ⟨k', z, ⟨cl, Ar, q1, S, N, H, G⟩, r, -⟩ := F
  obtain ⟨hn, hi⟩ := own_nat hj
  have hl : i < xs.length := (List.getElem?_eq_some_iff.mp hv).1
  have hin : ¬ (j < 0 ∨ cl.slots.size ≤ j.toNatClampNeg) := fun q => q.elim hn (fun y => by rw [S, r, hi] at y; omega)
  refine own_st (fun _ => X.iaload hx (by rw [eT]; exact Ar.1) (State.isArrayOf_alike hZ.alike Ar.2.1) Ar.2.2 hin (H.at hin (v := .int v) (by rw [hi]; simp [hv])) hg hs hd _) ?_
  exact k
theorem own_iastore (X : Stand p l e R s m args below meth c T locs cells slots) (hx : p.tables.exec = Jvm.exec) (hZ : Z.Warmed39 s.vm) (eT : T.heap = h) (F : own_IA Z h a xs) {j v : Int32} {i : Nat} (hj : j.toInt = (i : Int)) (hl : i < xs.length) {g : JFrame} (hg : g.method = m) {rest : List Value} (hs : g.stack = .int v :: .int j :: .ref a :: rest) (hd : decode c.code g.pc = .ok (.iastore, 1))
    (k : ∀ T' h', Stand p l e R s m args below meth c T' (locs ++ [⟨a, j.toNatClampNeg⟩]) cells slots → T'.heap = h' → Wr h h' a j.toNatClampNeg (.int v) → own_IA Z h' a (xs.set i v) → own_End p e below P (T'.setTop { g with pc := g.pc + 1, stack := rest })) : own_End p e below P (T.setTop g) := by
  obtain ⟨k', z, ⟨cl, Ar, q1, S, N, H, G⟩, r, E⟩ := F
  obtain ⟨hn, hi⟩ := own_nat hj
  have hin : ¬ (j < 0 ∨ cl.slots.size ≤ j.toNatClampNeg) := fun q => q.elim hn (fun y => by rw [S, r, hi] at y; omega)
  obtain ⟨T', h', X', e', W, st⟩ := stI X hx hZ eT Ar (j := j) hin hg hs hd
  refine own_st st (k T' h' X' e' W ⟨k', z, ?_, by rw [List.length_set]; exact r, E.wr W⟩)
  have := Arv.set Ar q1 S N H G rfl W i hi (by rw [List.length_map]; exact hl)
  rwa [← List.map_set] at this
theorem own_newI (X : Stand p l e R s m args below meth c T locs cells slots) (hx : p.tables.exec = Jvm.exec) (hZ : Z.Warmed39 s.vm) (w : (Jvm.Cond.arrayClass .int).before a0 Z = true) (eT : T.heap = h) {j : Int32} {n : Nat} (hj : j.toInt = (n : Int)) (cap : Nat) (hcap : n ≤ cap) (hb : cap * 8 ≤ 536870912) (hc : cells + 1 ≤ R.cells) (hl : slots + cap ≤ R.slots) {g : JFrame} (hg : g.method = m) {rest : List Value} (hs : g.stack = .int j :: rest) (hd : decode c.code g.pc = .ok (.newarray .int, 2))
    (k : ∀ T' h', Stand p l e R s m args below meth c T' locs (cells + 1) (slots + cap) → T'.heap = h' → Ext h h' → own_IA Z h' h.size (List.replicate n 0) → own_End p e below P (T'.setTop { g with pc := g.pc + 2, stack := .ref h.size :: rest })) : own_End p e below P (T.setTop g) := by
  obtain ⟨hn, hi⟩ := own_nat hj
  obtain ⟨T', h', cA, X', e', E, A, Ex, st⟩ := newPE X hx hZ (aty := .int) w eT hg hd hs hn (cap := cap) (by rw [hi]; exact hcap) hb hc hl (ad := "[I") (by decide)
  refine own_st st (k T' h' X' e' E ⟨cA, j, ?_, by rw [hi, List.length_replicate], Ex⟩)
  have := (Arv.new A hn).pad (vs' := (List.replicate n (0 : Int32)).map Value.int) (fun i => by simp [List.getD_eq_getElem?_getD, List.getElem?_replicate, newarray.typeOf, defaultValue]; split <;> rfl)
  exact this
theorem own_range (xs : List Int32) (sp n : Nat) (h4 : sp + n ≤ xs.length) : (List.range n).map (fun i => (xs.map Value.int).getD (sp + i) (.int 0)) = ((xs.drop sp).take n).map Value.int := by
  apply List.ext_getElem?
  intro i
  by_cases hi : i < n
  · have h5 : sp + i < xs.length := by omega
    simp [List.getElem?_map, List.getElem?_range hi, List.getElem?_take, hi, List.getElem?_drop, List.getD_eq_getElem?_getD, List.getElem?_eq_getElem h5]
  · rw [List.getElem?_eq_none (by simp; omega), List.getElem?_eq_none (by simp; omega)]
theorem own_copy (X : Stand p l e R s m args below meth c T locs cells slots) (hx : p.tables.exec = Jvm.exec) (hZ : Z.Warmed39 s.vm) {own : String} {index : Nat} (hown : s.vm.findClass own = some m.cls)
    (w1 : (Jvm.Cond.methodLink own index Jvm.Stand.acN).before a0 Z = true) (w2 : (Jvm.Cond.native Jvm.Stand.acN).before a0 Z = true) (w3 : (Jvm.Cond.static Jvm.Stand.acN).before a0 Z = true) (w4 : (Jvm.Cond.initialized "java/lang/System").before a0 Z = true) (eT : T.heap = h)
    (A : own_IA Z h a xs) (B : own_IA Z h b ys) {sj dj nj : Int32} {sp dp n : Nat} (h1 : sj.toInt = (sp : Int)) (h2 : dj.toInt = (dp : Int)) (h3 : nj.toInt = (n : Int)) (h4 : sp + n ≤ xs.length) (h5 : dp + n ≤ ys.length) {n0 : Nat} (N : Fr n0 locs) (ge : n0 ≤ b)
    {g : JFrame} (hg : g.method = m) (hsize : g.locals.size = c.maxLocals) {rest : List Value} (hs : g.stack = .int nj :: .int dj :: .ref b :: .int sj :: .ref a :: rest) (hd : decode c.code g.pc = .ok (.invokestatic index, 3))
    (hf : 1 ≤ R.frames) (W : Nat) (hW : 2 * g.monitorRoom + (rest.map fun v => v.category).sum ≤ W) (hlo : W + (nativeFrameWords "java/lang/System" "arraycopy" 5 + 11) ≤ R.locals)
    (k : ∀ T' h' L, Stand p l e R s m args below meth c T' L cells slots → T'.heap = h' → Fr n0 L → Keep h h' [b] → own_IA Z h' b (ys.take dp ++ (xs.drop sp).take n ++ ys.drop (dp + n)) → own_End p e below P (T'.setTop { g with pc := g.pc + 3, stack := rest })) : own_End p e below P (T.setTop g) := by
  obtain ⟨ka, za, Aa, ra, Ea⟩ := A
  obtain ⟨kb, zb, Ab, rb, Eb⟩ := B
  obtain ⟨n1, e1⟩ := own_nat h1
  obtain ⟨n2, e2⟩ := own_nat h2
  obtain ⟨n3, e3⟩ := own_nat h3
  obtain ⟨T', h', L, X', e', N', K, F, st⟩ := cpA X hx hZ hown w1 w2 w3 w4 eT Aa Ab (Or.inl ⟨rfl, rfl⟩) n1 n2 n3 (by rw [e1, e3, ra]; exact h4) (by rw [e2, e3, rb]; exact h5) (us := ((xs.drop sp).take n).map Value.int) (by rw [e3, e1]; exact (own_range xs sp n h4).symm) (by rw [e2, e3, List.length_map]; exact h5) N ge hg hsize hs hd hf hW hlo
  refine own_st st (k T' h' L X' e' N' K ⟨kb, zb, ?_, ?_, Eb.keep K⟩)
  · rw [e2, e3, ← List.map_take, ← List.map_drop, ← List.map_append, ← List.map_append] at F
    exact F
  · rw [rb]; simp; omega
theorem own_clone (X : Stand p l e R s m args below meth c T locs cells slots) (hx : p.tables.exec = Jvm.exec) (hZ : Z.Warmed39 s.vm) {own : String} {index : Nat} (hown : s.vm.findClass own = some m.cls)
    (w1 : (Jvm.Cond.methodLink own index ⟨"[I", "clone", "()Ljava/lang/Object;"⟩).before a0 Z = true) (w2 : (Jvm.Cond.sameMethod "[I" "java/lang/Object" "clone" "()Ljava/lang/Object;").before a0 Z = true) (w3 : (Jvm.Cond.native ⟨"java/lang/Object", "clone", "()Ljava/lang/Object;"⟩).before a0 Z = true)
    (w4 : (Jvm.Cond.instanceMethod ⟨"java/lang/Object", "clone", "()Ljava/lang/Object;"⟩).before a0 Z = true) (w5 : (Jvm.Cond.selects "[I" ⟨"[I", "clone", "()Ljava/lang/Object;"⟩ ⟨"java/lang/Object", "clone", "()Ljava/lang/Object;"⟩).before a0 Z = true) (w6 : (Jvm.Cond.castable "[I" "java/lang/Cloneable").before a0 Z = true)
    (eT : T.heap = h) (A : own_IA Z h a xs) {g : JFrame} (hg : g.method = m) (hsize : g.locals.size = c.maxLocals) {rest : List Value} (hst : g.stack = .ref a :: rest) (hd : decode c.code g.pc = .ok (.invokevirtual index, 3))
    (hf : 1 ≤ R.frames) (W cap : Nat) (hW : 2 * g.monitorRoom + (rest.map fun v => v.category).sum ≤ W) (hl : W + 14 ≤ R.locals) (hcap : xs.length ≤ cap) (hc : cells + 1 ≤ R.cells) (hsl : slots + cap ≤ R.slots)
    (k : ∀ T' h', Stand p l e R s m args below meth c T' locs (cells + 1) (slots + cap) → T'.heap = h' → Ext h h' → own_IA Z h' h.size xs → own_End p e below P (T'.setTop { g with pc := g.pc + 3, stack := .ref h.size :: rest })) : own_End p e below P (T.setTop g) := by
  obtain ⟨ka, za, Aa, ra, Ea⟩ := A
  obtain ⟨T', h', X', e', E, F, Ex, st⟩ := cloneH X hx hZ hown w1 w2 w3 w4 w5 w6 eT Aa.arh Ea hg hsize hst hd hf hW hl (cap := cap) (by rw [ra]; exact hcap) hc hsl
  exact own_st st (k T' h' X' e' E ⟨ka, za, F, ra, Ex⟩)
end OwnA
def own_mk (n x y : Int32) : List Int32 := if n = (0 : Int32) then [] else (if n = (1 : Int32) then [x] else [x, y])
theorem own_mk_len {n x y : Int32} {k : Nat} (h : n.toInt = (k : Int)) (h2 : k ≤ 2) : (own_mk n x y).length = k := by
  have e0 : n = (0 : Int32) ↔ n.toInt = 0 := by rw [← Int32.toInt_inj]; rfl
  have e1 : n = (1 : Int32) ↔ n.toInt = 1 := by rw [← Int32.toInt_inj]; rfl
  unfold own_mk
  by_cases c0 : n = (0 : Int32)
  · rw [if_pos c0]; rw [e0, h] at c0; show 0 = k; omega
  · rw [if_neg c0]
    by_cases c1 : n = (1 : Int32)
    · rw [if_pos c1]; rw [e1, h] at c1; show 1 = k; omega
    · rw [if_neg c1]; rw [e0, h] at c0; rw [e1, h] at c1; show 2 = k; omega
theorem own_mk_ofNat {n x y : Int32} {k : Nat} (h : n.toInt = (k : Int)) (h2 : k ≤ 2) : Int32.ofNat (own_mk n x y).length = n := by
  rw [own_mk_len h h2]
  apply Int32.toInt_inj.mp
  rw [Int32.toInt_ofNat_small (by omega), h]
theorem own_mk0 {n x y : Int32} (h : ¬ n = (0 : Int32)) : (own_mk n x y)[0]? = some x := by
  unfold own_mk; rw [if_neg h]; split <;> rfl
theorem own_mk1 {n x y : Int32} (h : ¬ n = (0 : Int32)) (h1 : ¬ n = (1 : Int32)) : (own_mk n x y)[1]? = some y := by
  unfold own_mk; rw [if_neg h, if_neg h1]; rfl
theorem own_mkpos {n x y : Int32} (h : (0 : Int32) < Int32.ofNat (own_mk n x y).length) : ¬ n = (0 : Int32) := fun q => by
  unfold own_mk at h; rw [if_pos q] at h; exact absurd h (by decide)
theorem own_mklt {n x y : Int32} (h : ¬ n = (0 : Int32)) : 0 < (own_mk n x y).length := by
  unfold own_mk; rw [if_neg h]; split <;> simp
theorem own_z32 : (0 : Int32).toInt = ((0 : Nat) : Int) := by decide
theorem own_o32 : (1 : Int32).toInt = ((1 : Nat) : Int) := by decide
theorem own_ofn {k : Nat} (h : k < 2 ^ 31) : (Int32.ofNat k).toInt = (k : Int) := Int32.toInt_ofNat_small h
theorem own_add32 {a b : Int32} {i j : Nat} (h1 : a.toInt = (i : Int)) (h2 : b.toInt = (j : Int)) (h : i + j < 2 ^ 31) : (a + b).toInt = ((i + j : Nat) : Int) := by
  rw [Jvm.Kit.i32_add (by omega) (by omega)]; omega
theorem own_sub32 {a b : Int32} {i j : Nat} (h1 : a.toInt = (i : Int)) (h2 : b.toInt = (j : Int)) (h : j ≤ i) (hi : i < 2 ^ 31) : (a - b).toInt = ((i - j : Nat) : Int) := by
  rw [Jvm.Kit.i32_sub (by omega) (by omega)]; omega
theorem own_cpy (pre xs : List Int32) (r : Nat) (h : xs.length ≤ r) : (pre ++ List.replicate r (0 : Int32)).take pre.length ++ (xs.drop 0).take xs.length ++ (pre ++ List.replicate r (0 : Int32)).drop (pre.length + xs.length) = (pre ++ xs) ++ List.replicate (r - xs.length) (0 : Int32) := by
  simp [List.drop_append, List.take_append]
theorem own_cl {p1 p2 : Int32} {pre x post : List Int32} (hp : p1.toInt = (pre.length : Int)) (hq : p2.toInt = ((pre.length + x.length : Nat) : Int)) (c1 : p1 = (0 : Int32)) (c2 : p2 = Int32.ofNat (pre ++ (x ++ post)).length) (h6 : (pre ++ (x ++ post)).length ≤ 6) : pre ++ (x ++ post) = x := by
  rw [c1, own_z32] at hp
  rw [c2, own_ofn (by omega)] at hq
  have hl : (pre ++ (x ++ post)).length = pre.length + (x.length + post.length) := by simp
  have a0 : pre = [] := List.length_eq_zero_iff.mp (by omega)
  have a1 : post = [] := List.length_eq_zero_iff.mp (by omega)
  rw [a0, a1]; simp
theorem own_seg (pre x post : List Int32) : ((pre ++ (x ++ post)).drop pre.length).take x.length = x := by simp
theorem own_dmin_0 : decode jdk_29_method_69_code 0 = .ok (.iload_n 0, 1) := by decide +kernel
theorem own_dmin_1 : decode jdk_29_method_69_code 1 = .ok (.iload_n 1, 1) := by decide +kernel
theorem own_dmin_2 : decode jdk_29_method_69_code 2 = .ok (.if_icmp .gt 7, 3) := by decide +kernel
theorem own_dmin_9 : decode jdk_29_method_69_code 9 = .ok (.iload_n 1, 1) := by decide +kernel
theorem own_dmin_10 : decode jdk_29_method_69_code 10 = .ok (.ireturn, 1) := by decide +kernel
theorem own_dmin_5 : decode jdk_29_method_69_code 5 = .ok (.iload_n 0, 1) := by decide +kernel
theorem own_dmin_6 : decode jdk_29_method_69_code 6 = .ok (.goto 4, 3) := by decide +kernel
theorem own_efmin (m : MethodId) (p0 : Int32) (p1 : Int32) : entryFrame m #[(.int p0), (.int p1)] 2 = mkF m 0 #[.val (.int p0), .val (.int p1)] [] := by first | (simp [entryFrame, mkF, argsToLocals, Value.category]; done) | rfl
def own_fmin (p0 : Int32) (p1 : Int32) : Int32 := (if p1 < p0 then p1 else p0)
set_option maxRecDepth 65536 in
set_option maxHeartbeats 40000000 in
theorem own_mmin (l : Launch) (Z : State) (a0 : Array Value) (hw : ∀ d ∈ tables_1, d.before a0 Z = true) (ws : List Jvm.Cond) (p0 : Int32) (p1 : Int32)  (h0 : Heap) (n0 : Nat) (Z0 : n0 ≤ h0.size)  :
    own_Met l Z (⟨"java/lang/Math", "min", "(II)I"⟩ : MethodName) jdk_29_method_69_code 2 (some .int) ws ({ frames := 0, cells := 0, slots := 0, locals := 0 } : Room) #[(.int p0), (.int p1)] h0 (fun (v : Option Value) (h : Heap) (L : List Loc) => v = some (.int (own_fmin p0 p1)) ∧ Fr n0 L ∧ h = h0) := by
  refine own_enter (Jvm.Free.JP.mathPlain rfl (by decide +kernel)) ?_
  intro p e s m below meth c s₁ P hx hby hml hrt hlk hown hnm hZ X0 e0 hP
  have N0 := Fr.nil n0
  have K0 := Keep.refl h0 []
  have hml' : c.maxLocals = 2 := hml
  refine own_cast (own_efmin m p0 p1) ?_
  show own_End p e below P (s₁.setTop (mkF m 0 #[.val (.int p0), .val (.int p1)] []))
  refine own_st (fun _ => XS.iloadN X0.here hx rfl (hb hby own_dmin_0) rfl) ?_
  show own_End p e below P (s₁.setTop (mkF m 1 #[.val (.int p0), .val (.int p1)] [(.int p0)]))
  refine own_st (fun _ => XS.iloadN X0.here hx rfl (hb hby own_dmin_1) rfl) ?_
  show own_End p e below P (s₁.setTop (mkF m 2 #[.val (.int p0), .val (.int p1)] [(.int p1), (.int p0)]))
  by_cases hc1 : p1 < p0
  · refine own_st (fun _ => XS.icmpYes X0.here hx rfl (pc0 := 2) (pc' := 9) rfl (hb hby own_dmin_2) rfl (tlt hc1).2.2.1 (by decide) (by decide)) ?_
    show own_End p e below P (s₁.setTop (mkF m 9 #[.val (.int p0), .val (.int p1)] []))
    refine own_st (fun _ => XS.iloadN X0.here hx rfl (hb hby own_dmin_9) rfl) ?_
    show own_End p e below P (s₁.setTop (mkF m 10 #[.val (.int p0), .val (.int p1)] [(.int p1)]))
    refine own_retI X0 hx hlk hP hrt (hb hby own_dmin_10) (by decide) (by decide) ⟨congrArg (fun z => some (Value.int z)) ?_, N0, e0⟩
    exact (show own_fmin p0 p1 = p1 from (if_pos hc1).trans (rfl)).symm
  · refine own_st (fun _ => XS.icmpNo X0.here hx rfl (hb hby own_dmin_2) rfl (flt hc1).2.2.1) ?_
    show own_End p e below P (s₁.setTop (mkF m 5 #[.val (.int p0), .val (.int p1)] []))
    refine own_st (fun _ => XS.iloadN X0.here hx rfl (hb hby own_dmin_5) rfl) ?_
    show own_End p e below P (s₁.setTop (mkF m 6 #[.val (.int p0), .val (.int p1)] [(.int p0)]))
    refine own_st (fun _ => XS.goto X0.here hx rfl (pc0 := 6) (pc' := 10) rfl (hb hby own_dmin_6) (by decide) (by decide)) ?_
    show own_End p e below P (s₁.setTop (mkF m 10 #[.val (.int p0), .val (.int p1)] [(.int p0)]))
    refine own_retI X0 hx hlk hP hrt (hb hby own_dmin_10) (by decide) (by decide) ⟨congrArg (fun z => some (Value.int z)) ?_, N0, e0⟩
    exact (show own_fmin p0 p1 = p0 from (if_neg hc1).trans (rfl)).symm
theorem own_dchk_0 : decode jdk_65_method_131_code 0 = .ok (.iload_n 1, 1) := by decide +kernel
theorem own_dchk_1 : decode jdk_65_method_131_code 1 = .ok (.iload_n 0, 1) := by decide +kernel
theorem own_dchk_2 : decode jdk_65_method_131_code 2 = .ok (.if_icmp .ge 35, 3) := by decide +kernel
theorem own_dchk_37 : decode jdk_65_method_131_code 37 = .ok (.return_, 1) := by decide +kernel
theorem own_efchk (m : MethodId) (p0 : Int32) (p1 : Int32) : entryFrame m #[(.int p0), (.int p1)] 2 = mkF m 0 #[.val (.int p0), .val (.int p1)] [] := by first | (simp [entryFrame, mkF, argsToLocals, Value.category]; done) | rfl
theorem own_pn_java_util_Arrays : plainName "java/util/Arrays" = true := by first | (simp [plainName, overriddenIn]; done) | decide +kernel
set_option maxRecDepth 65536 in
set_option maxHeartbeats 40000000 in
theorem own_mchk (l : Launch) (Z : State) (a0 : Array Value) (hw : ∀ d ∈ tables_1, d.before a0 Z = true) (ws : List Jvm.Cond) (p0 : Int32) (p1 : Int32)  (h0 : Heap) (n0 : Nat) (Z0 : n0 ≤ h0.size) (hl : ¬ (p1 < p0)) :
    own_Met l Z (⟨"java/util/Arrays", "checkLength", "(II)V"⟩ : MethodName) jdk_65_method_131_code 2 none ws ({ frames := 0, cells := 0, slots := 0, locals := 0 } : Room) #[(.int p0), (.int p1)] h0 (fun (v : Option Value) (h : Heap) (L : List Loc) => v = none ∧ Fr n0 L ∧ h = h0) := by
  refine own_enter (plainFor_of_name own_pn_java_util_Arrays) ?_
  intro p e s m below meth c s₁ P hx hby hml hrt hlk hown hnm hZ X0 e0 hP
  have N0 := Fr.nil n0
  have K0 := Keep.refl h0 []
  have hml' : c.maxLocals = 2 := hml
  refine own_cast (own_efchk m p0 p1) ?_
  show own_End p e below P (s₁.setTop (mkF m 0 #[.val (.int p0), .val (.int p1)] []))
  refine own_st (fun _ => XS.iloadN X0.here hx rfl (hb hby own_dchk_0) rfl) ?_
  show own_End p e below P (s₁.setTop (mkF m 1 #[.val (.int p0), .val (.int p1)] [(.int p1)]))
  refine own_st (fun _ => XS.iloadN X0.here hx rfl (hb hby own_dchk_1) rfl) ?_
  show own_End p e below P (s₁.setTop (mkF m 2 #[.val (.int p0), .val (.int p1)] [(.int p0), (.int p1)]))
  refine own_st (fun _ => XS.icmpYes X0.here hx rfl (pc0 := 2) (pc' := 37) rfl (hb hby own_dchk_2) rfl (flt hl).2.1 (by decide) (by decide)) ?_
  show own_End p e below P (s₁.setTop (mkF m 37 #[.val (.int p0), .val (.int p1)] []))
  exact own_retV X0 hx hlk hP hrt (hb hby own_dchk_37) (by decide) (by decide) ⟨rfl, N0, e0⟩
theorem own_min {a b : Int32} {i j : Nat} (h1 : a.toInt = (i : Int)) (h2 : b.toInt = (j : Int)) (h : j ≤ i) : (own_fmin a b).toInt = (j : Int) := by
  show (if b < a then b else a).toInt = _
  split
  · exact h2
  · rename_i q; rw [Int32.lt_iff_toInt_lt] at q; omega
theorem own_dcri_0 : decode jdk_65_method_137_code 0 = .ok (.iload_n 1, 1) := by decide +kernel
theorem own_dcri_1 : decode jdk_65_method_137_code 1 = .ok (.iload_n 2, 1) := by decide +kernel
theorem own_dcri_2 : decode jdk_65_method_137_code 2 = .ok (.invokestatic 343, 3) := by decide +kernel
theorem own_pd_II_V_313 : parseMethodDescriptor "(II)V" = some ⟨[.int, .int], none⟩ := by decide +kernel
theorem own_dcri_5 : decode jdk_65_method_137_code 5 = .ok (.iload_n 2, 1) := by decide +kernel
theorem own_dcri_6 : decode jdk_65_method_137_code 6 = .ok (.iload_n 1, 1) := by decide +kernel
theorem own_dcri_7 : decode jdk_65_method_137_code 7 = .ok (.isub, 1) := by decide +kernel
theorem own_dcri_8 : decode jdk_65_method_137_code 8 = .ok (.istore_n 3, 1) := by decide +kernel
theorem own_dcri_9 : decode jdk_65_method_137_code 9 = .ok (.iload_n 3, 1) := by decide +kernel
theorem own_dcri_10 : decode jdk_65_method_137_code 10 = .ok (.newarray .int, 2) := by decide +kernel
theorem own_dcri_12 : decode jdk_65_method_137_code 12 = .ok (.astore 4, 2) := by decide +kernel
theorem own_dcri_14 : decode jdk_65_method_137_code 14 = .ok (.aload_n 0, 1) := by decide +kernel
theorem own_dcri_15 : decode jdk_65_method_137_code 15 = .ok (.iload_n 1, 1) := by decide +kernel
theorem own_dcri_16 : decode jdk_65_method_137_code 16 = .ok (.aload 4, 2) := by decide +kernel
theorem own_dcri_18 : decode jdk_65_method_137_code 18 = .ok (.iconst 0, 1) := by decide +kernel
theorem own_dcri_19 : decode jdk_65_method_137_code 19 = .ok (.aload_n 0, 1) := by decide +kernel
theorem own_dcri_20 : decode jdk_65_method_137_code 20 = .ok (.arraylength, 1) := by decide +kernel
theorem own_dcri_21 : decode jdk_65_method_137_code 21 = .ok (.iload_n 1, 1) := by decide +kernel
theorem own_dcri_22 : decode jdk_65_method_137_code 22 = .ok (.isub, 1) := by decide +kernel
theorem own_dcri_23 : decode jdk_65_method_137_code 23 = .ok (.iload_n 3, 1) := by decide +kernel
theorem own_dcri_24 : decode jdk_65_method_137_code 24 = .ok (.invokestatic 304, 3) := by decide +kernel
theorem own_pd_II_I_300 : parseMethodDescriptor "(II)I" = some ⟨[.int, .int], some .int⟩ := by decide +kernel
theorem own_dcri_27 : decode jdk_65_method_137_code 27 = .ok (.invokestatic 150, 3) := by decide +kernel
theorem own_dcri_30 : decode jdk_65_method_137_code 30 = .ok (.aload 4, 2) := by decide +kernel
theorem own_dcri_32 : decode jdk_65_method_137_code 32 = .ok (.areturn, 1) := by decide +kernel
theorem own_efcri (m : MethodId) (o0 : Addr) (p1 : Int32) (p2 : Int32) : entryFrame m #[(.ref o0), (.int p1), (.int p2)] 5 = mkF m 0 #[.val (.ref o0), .val (.int p1), .val (.int p2), .unset, .unset] [] := by first | (simp [entryFrame, mkF, argsToLocals, Value.category]; done) | rfl
set_option maxRecDepth 65536 in
set_option maxHeartbeats 40000000 in
theorem own_mcri (l : Launch) (Z : State) (a0 : Array Value) (hw : ∀ d ∈ tables_1, d.before a0 Z = true) (ws : List Jvm.Cond) (o0 : Addr) (p1 : Int32) (p2 : Int32) (pre : List Int32) (x : List Int32) (post : List Int32) (h0 : Heap) (n0 : Nat) (Z0 : n0 ≤ h0.size) (A_o0 : own_IA Z h0 o0 (pre ++ (x ++ post))) (hp : p1.toInt = (pre.length : Int)) (hq : p2.toInt = ((pre.length + x.length : Nat) : Int)) (h6 : (pre ++ (x ++ post)).length ≤ 6) :
    own_Met l Z (⟨"java/util/Arrays", "copyOfRangeInt", "([III)[I"⟩ : MethodName) jdk_65_method_137_code 5 (some (.array .int)) ws ({ frames := 1, cells := 1, slots := 6, locals := 40 } : Room) #[(.ref o0), (.int p1), (.int p2)] h0 (fun (v : Option Value) (h : Heap) (L : List Loc) => ∃ (br : Addr), v = some (.ref br) ∧ Fr n0 L ∧ Keep h0 h [] ∧ h0.size ≤ br ∧ n0 ≤ br ∧ own_IA Z h br x) := by
  refine own_enter (plainFor_of_name own_pn_java_util_Arrays) ?_
  intro p e s m below meth c s₁ P hx hby hml hrt hlk hown hnm hZ X0 e0 hP
  have N0 := Fr.nil n0
  have K0 := Keep.refl h0 []
  have hml' : c.maxLocals = 5 := hml
  refine own_cast (own_efcri m o0 p1 p2) ?_
  have hl : (pre ++ (x ++ post)).length = pre.length + (x.length + post.length) := by simp
  have hlen : (Int32.ofNat (pre ++ (x ++ post)).length).toInt = ((pre ++ (x ++ post)).length : Int) := own_ofn (by omega)
  have hnew : (p2 - p1).toInt = ((x.length : Nat) : Int) := by rw [own_sub32 hq hp (by omega) (by omega)]; omega
  show own_End p e below P (s₁.setTop (mkF m 0 #[.val (.ref o0), .val (.int p1), .val (.int p2), .unset, .unset] []))
  refine own_st (fun _ => XS.iloadN X0.here hx rfl (hb hby own_dcri_0) rfl) ?_
  show own_End p e below P (s₁.setTop (mkF m 1 #[.val (.ref o0), .val (.int p1), .val (.int p2), .unset, .unset] [(.int p1)]))
  refine own_st (fun _ => XS.iloadN X0.here hx rfl (hb hby own_dcri_1) rfl) ?_
  show own_End p e below P (s₁.setTop (mkF m 2 #[.val (.ref o0), .val (.int p1), .val (.int p2), .unset, .unset] [(.int p2), (.int p1)]))
  refine own_callS X0 hx hZ (y := (⟨"java/util/Arrays", "checkLength", "(II)V"⟩ : MethodName)) hown (hw _ (List.mem_of_getElem? (i := 63) rfl)) (hw _ (List.mem_of_getElem? (i := 64) rfl)) (hw _ (List.mem_of_getElem? (i := 46) rfl)) (hw _ (List.mem_of_getElem? (i := 65) rfl)) (by decide) (own_mchk l Z a0 hw [] p1 p2  h0 n0 (Nat.le_trans Z0 K0.1) (by rw [Int32.lt_iff_toInt_lt]; omega)) 0 (by decide) (by decide) e0 (by decide) (by decide) (g := (mkF m 2 #[.val (.ref o0), .val (.int p1), .val (.int p2), .unset, .unset] [(.int p2), (.int p1)])) rfl (by rw [hml']; rfl) (argsL := [(.int p1), (.int p2)]) (rest := []) rfl (lenOf own_pd_II_V_313 rfl) rfl (by show 2 * 0 + _ ≤ _; exact Nat.le_of_eq rfl) (hb hby own_dcri_2) (fun r1 T1 L1 X1 hQ1 => ?_)
  obtain ⟨rfl, Nq1, eq1⟩ := hQ1
  have N1 := Fr.app N0 Nq1
  show own_End p e below P (T1.setTop (mkF m 5 #[.val (.ref o0), .val (.int p1), .val (.int p2), .unset, .unset] []))
  refine own_st (fun _ => XS.iloadN X1.here hx rfl (hb hby own_dcri_5) rfl) ?_
  show own_End p e below P (T1.setTop (mkF m 6 #[.val (.ref o0), .val (.int p1), .val (.int p2), .unset, .unset] [(.int p2)]))
  refine own_st (fun _ => XS.iloadN X1.here hx rfl (hb hby own_dcri_6) rfl) ?_
  show own_End p e below P (T1.setTop (mkF m 7 #[.val (.ref o0), .val (.int p1), .val (.int p2), .unset, .unset] [(.int p1), (.int p2)]))
  refine own_st (fun _ => XS.isub X1.here hx rfl (hb hby own_dcri_7) rfl) ?_
  show own_End p e below P (T1.setTop (mkF m 8 #[.val (.ref o0), .val (.int p1), .val (.int p2), .unset, .unset] [(.int (p2 - p1))]))
  refine own_st (fun _ => XS.istoreN X1.here hx rfl (hb hby own_dcri_8) rfl (l' := #[.val (.ref o0), .val (.int p1), .val (.int p2), .val (.int (p2 - p1)), .unset]) rfl) ?_
  show own_End p e below P (T1.setTop (mkF m 9 #[.val (.ref o0), .val (.int p1), .val (.int p2), .val (.int (p2 - p1)), .unset] []))
  refine own_st (fun _ => XS.iloadN X1.here hx rfl (hb hby own_dcri_9) rfl) ?_
  show own_End p e below P (T1.setTop (mkF m 10 #[.val (.ref o0), .val (.int p1), .val (.int p2), .val (.int (p2 - p1)), .unset] [(.int (p2 - p1))]))
  refine own_newI X1 hx hZ (hw _ (List.mem_of_getElem? (i := 4) rfl)) eq1 (j := (p2 - p1)) (n := x.length) hnew 6 (by omega) (by decide) (by decide) (by decide) (g := (mkF m 10 #[.val (.ref o0), .val (.int p1), .val (.int p2), .val (.int (p2 - p1)), .unset] [(.int (p2 - p1))])) rfl rfl (hb hby own_dcri_10) (fun T2 h2 X2 e2 E2 B2 => ?_)
  obtain ⟨b2, g2⟩ : ∃ z, z = h0.size := ⟨_, rfl⟩
  rw [← g2] at B2 ⊢
  have ne3 : o0 ≠ b2 := Nat.ne_of_lt (Nat.lt_of_lt_of_le A_o0.lt (Nat.le_of_eq g2.symm))
  have low_b2 : n0 ≤ b2 := Nat.le_trans (Nat.le_trans Z0 K0.1) (Nat.le_of_eq g2.symm)
  have sz_b2 : h0.size ≤ b2 := Nat.le_trans K0.1 (Nat.le_of_eq g2.symm)
  have K2 := Keep.ext K0 E2
  have A2 : own_IA Z h2 b2 (List.replicate x.length (0 : Int32)) := B2
  show own_End p e below P (T2.setTop (mkF m 12 #[.val (.ref o0), .val (.int p1), .val (.int p2), .val (.int (p2 - p1)), .unset] [(.ref b2)]))
  refine own_st (fun _ => XS.astore X2.here hx rfl (hb hby own_dcri_12) rfl rfl (l' := #[.val (.ref o0), .val (.int p1), .val (.int p2), .val (.int (p2 - p1)), .val (.ref b2)]) rfl) ?_
  show own_End p e below P (T2.setTop (mkF m 14 #[.val (.ref o0), .val (.int p1), .val (.int p2), .val (.int (p2 - p1)), .val (.ref b2)] []))
  refine own_st (fun _ => XS.aloadN X2.here hx rfl (hb hby own_dcri_14) rfl rfl) ?_
  show own_End p e below P (T2.setTop (mkF m 15 #[.val (.ref o0), .val (.int p1), .val (.int p2), .val (.int (p2 - p1)), .val (.ref b2)] [(.ref o0)]))
  refine own_st (fun _ => XS.iloadN X2.here hx rfl (hb hby own_dcri_15) rfl) ?_
  show own_End p e below P (T2.setTop (mkF m 16 #[.val (.ref o0), .val (.int p1), .val (.int p2), .val (.int (p2 - p1)), .val (.ref b2)] [(.int p1), (.ref o0)]))
  refine own_st (fun _ => XS.aload X2.here hx rfl (hb hby own_dcri_16) rfl rfl) ?_
  show own_End p e below P (T2.setTop (mkF m 18 #[.val (.ref o0), .val (.int p1), .val (.int p2), .val (.int (p2 - p1)), .val (.ref b2)] [(.ref b2), (.int p1), (.ref o0)]))
  refine own_st (fun _ => XS.iconst X2.here hx rfl (hb hby own_dcri_18)) ?_
  show own_End p e below P (T2.setTop (mkF m 19 #[.val (.ref o0), .val (.int p1), .val (.int p2), .val (.int (p2 - p1)), .val (.ref b2)] [(.int (0 : Int32)), (.ref b2), (.int p1), (.ref o0)]))
  refine own_st (fun _ => XS.aloadN X2.here hx rfl (hb hby own_dcri_19) rfl rfl) ?_
  show own_End p e below P (T2.setTop (mkF m 20 #[.val (.ref o0), .val (.int p1), .val (.int p2), .val (.int (p2 - p1)), .val (.ref b2)] [(.ref o0), (.int (0 : Int32)), (.ref b2), (.int p1), (.ref o0)]))
  have G4 := (A_o0.ext E2)
  refine own_alen X2 hx hZ e2 G4 (g := (mkF m 20 #[.val (.ref o0), .val (.int p1), .val (.int p2), .val (.int (p2 - p1)), .val (.ref b2)] [(.ref o0), (.int (0 : Int32)), (.ref b2), (.int p1), (.ref o0)])) rfl rfl (hb hby own_dcri_20) ?_
  show own_End p e below P (T2.setTop (mkF m 21 #[.val (.ref o0), .val (.int p1), .val (.int p2), .val (.int (p2 - p1)), .val (.ref b2)] [(.int (Int32.ofNat (pre ++ (x ++ post)).length)), (.int (0 : Int32)), (.ref b2), (.int p1), (.ref o0)]))
  refine own_st (fun _ => XS.iloadN X2.here hx rfl (hb hby own_dcri_21) rfl) ?_
  show own_End p e below P (T2.setTop (mkF m 22 #[.val (.ref o0), .val (.int p1), .val (.int p2), .val (.int (p2 - p1)), .val (.ref b2)] [(.int p1), (.int (Int32.ofNat (pre ++ (x ++ post)).length)), (.int (0 : Int32)), (.ref b2), (.int p1), (.ref o0)]))
  refine own_st (fun _ => XS.isub X2.here hx rfl (hb hby own_dcri_22) rfl) ?_
  show own_End p e below P (T2.setTop (mkF m 23 #[.val (.ref o0), .val (.int p1), .val (.int p2), .val (.int (p2 - p1)), .val (.ref b2)] [(.int ((Int32.ofNat (pre ++ (x ++ post)).length) - p1)), (.int (0 : Int32)), (.ref b2), (.int p1), (.ref o0)]))
  refine own_st (fun _ => XS.iloadN X2.here hx rfl (hb hby own_dcri_23) rfl) ?_
  show own_End p e below P (T2.setTop (mkF m 24 #[.val (.ref o0), .val (.int p1), .val (.int p2), .val (.int (p2 - p1)), .val (.ref b2)] [(.int (p2 - p1)), (.int ((Int32.ofNat (pre ++ (x ++ post)).length) - p1)), (.int (0 : Int32)), (.ref b2), (.int p1), (.ref o0)]))
  refine own_callS X2 hx hZ (y := (⟨"java/lang/Math", "min", "(II)I"⟩ : MethodName)) hown (hw _ (List.mem_of_getElem? (i := 66) rfl)) (hw _ (List.mem_of_getElem? (i := 67) rfl)) (hw _ (List.mem_of_getElem? (i := 68) rfl)) (hw _ (List.mem_of_getElem? (i := 69) rfl)) (by decide) (own_mmin l Z a0 hw [] ((Int32.ofNat (pre ++ (x ++ post)).length) - p1) (p2 - p1)  h2 n0 (Nat.le_trans Z0 K2.1) ) 4 (by decide) (by decide) e2 (by decide) (by decide) (g := (mkF m 24 #[.val (.ref o0), .val (.int p1), .val (.int p2), .val (.int (p2 - p1)), .val (.ref b2)] [(.int (p2 - p1)), (.int ((Int32.ofNat (pre ++ (x ++ post)).length) - p1)), (.int (0 : Int32)), (.ref b2), (.int p1), (.ref o0)])) rfl (by rw [hml']; rfl) (argsL := [(.int ((Int32.ofNat (pre ++ (x ++ post)).length) - p1)), (.int (p2 - p1))]) (rest := [(.int (0 : Int32)), (.ref b2), (.int p1), (.ref o0)]) rfl (lenOf own_pd_II_I_300 rfl) rfl (by show 2 * 0 + _ ≤ _; exact Nat.le_of_eq rfl) (hb hby own_dcri_24) (fun r5 T5 L5 X5 hQ5 => ?_)
  obtain ⟨rfl, Nq5, eq5⟩ := hQ5
  have N5 := Fr.app N1 Nq5
  show own_End p e below P (T5.setTop (mkF m 27 #[.val (.ref o0), .val (.int p1), .val (.int p2), .val (.int (p2 - p1)), .val (.ref b2)] [(.int (own_fmin ((Int32.ofNat (pre ++ (x ++ post)).length) - p1) (p2 - p1))), (.int (0 : Int32)), (.ref b2), (.int p1), (.ref o0)]))
  refine own_copy X5 hx hZ hown (hw _ (List.mem_of_getElem? (i := 70) rfl)) (hw _ (List.mem_of_getElem? (i := 28) rfl)) (hw _ (List.mem_of_getElem? (i := 26) rfl)) (hw _ (List.mem_of_getElem? (i := 27) rfl)) eq5 G4 A2 (sp := pre.length) (dp := 0) (n := x.length) hp own_z32 (own_min (own_sub32 hlen hp (by omega) (by omega)) hnew (by omega)) (by omega) (by simp) N5 low_b2 (g := (mkF m 27 #[.val (.ref o0), .val (.int p1), .val (.int p2), .val (.int (p2 - p1)), .val (.ref b2)] [(.int (own_fmin ((Int32.ofNat (pre ++ (x ++ post)).length) - p1) (p2 - p1))), (.int (0 : Int32)), (.ref b2), (.int p1), (.ref o0)])) rfl (by rw [hml']; rfl) rfl (hb hby own_dcri_27) (by decide) 0 (by show 2 * 0 + _ ≤ _; exact Nat.le_of_eq rfl) (by decide) (fun T6 h6 L6 X6 e6 N6 Kq6 B6 => ?_)
  have A6 : own_IA Z h6 b2 x := by simpa [own_seg] using B6
  have K6 := Keep.trans K2 Kq6 (allS (Or.inr sz_b2) all0)
  show own_End p e below P (T6.setTop (mkF m 30 #[.val (.ref o0), .val (.int p1), .val (.int p2), .val (.int (p2 - p1)), .val (.ref b2)] []))
  refine own_st (fun _ => XS.aload X6.here hx rfl (hb hby own_dcri_30) rfl rfl) ?_
  show own_End p e below P (T6.setTop (mkF m 32 #[.val (.ref o0), .val (.int p1), .val (.int p2), .val (.int (p2 - p1)), .val (.ref b2)] [(.ref b2)]))
  have Ar7 : own_IA Z h6 b2 x := A6
  have hfin : (fun (v : Option Value) (h : Heap) (L : List Loc) => ∃ (br : Addr), v = some (.ref br) ∧ Fr n0 L ∧ Keep h0 h [] ∧ h0.size ≤ br ∧ n0 ≤ br ∧ own_IA Z h br x) (some (.ref b2)) h6 _ := ⟨b2, rfl, N6, K6, sz_b2, low_b2, Ar7⟩
  refine own_retR X6 hx hlk hP rfl rfl hrt (hb hby own_dcri_32) (by decide) (by decide) ?_
  rw [e6]; exact hfin
theorem own_dcr_0 : decode jdk_65_method_136_code 0 = .ok (.iload_n 1, 1) := by decide +kernel
theorem own_dcr_1 : decode jdk_65_method_136_code 1 = .ok (.ifCond .ne 9, 3) := by decide +kernel
theorem own_dcr_4 : decode jdk_65_method_136_code 4 = .ok (.iload_n 2, 1) := by decide +kernel
theorem own_dcr_5 : decode jdk_65_method_136_code 5 = .ok (.aload_n 0, 1) := by decide +kernel
theorem own_dcr_6 : decode jdk_65_method_136_code 6 = .ok (.arraylength, 1) := by decide +kernel
theorem own_dcr_7 : decode jdk_65_method_136_code 7 = .ok (.if_icmp .eq 10, 3) := by decide +kernel
theorem own_dcr_17 : decode jdk_65_method_136_code 17 = .ok (.aload_n 0, 1) := by decide +kernel
theorem own_dcr_18 : decode jdk_65_method_136_code 18 = .ok (.invokevirtual 316, 3) := by decide +kernel
theorem own_dcr_21 : decode jdk_65_method_136_code 21 = .ok (.checkcast 317, 3) := by decide +kernel
theorem own_dcr_24 : decode jdk_65_method_136_code 24 = .ok (.areturn, 1) := by decide +kernel
theorem own_dcr_10 : decode jdk_65_method_136_code 10 = .ok (.aload_n 0, 1) := by decide +kernel
theorem own_dcr_11 : decode jdk_65_method_136_code 11 = .ok (.iload_n 1, 1) := by decide +kernel
theorem own_dcr_12 : decode jdk_65_method_136_code 12 = .ok (.iload_n 2, 1) := by decide +kernel
theorem own_dcr_13 : decode jdk_65_method_136_code 13 = .ok (.invokestatic 351, 3) := by decide +kernel
theorem own_pd_III__I_555 : parseMethodDescriptor "([III)[I" = some ⟨[(.array .int), .int, .int], some (.array .int)⟩ := by decide +kernel
theorem own_dcr_16 : decode jdk_65_method_136_code 16 = .ok (.areturn, 1) := by decide +kernel
theorem own_efcr (m : MethodId) (o0 : Addr) (p1 : Int32) (p2 : Int32) : entryFrame m #[(.ref o0), (.int p1), (.int p2)] 3 = mkF m 0 #[.val (.ref o0), .val (.int p1), .val (.int p2)] [] := by first | (simp [entryFrame, mkF, argsToLocals, Value.category]; done) | rfl
set_option maxRecDepth 65536 in
set_option maxHeartbeats 40000000 in
theorem own_mcr (l : Launch) (Z : State) (a0 : Array Value) (hw : ∀ d ∈ tables_1, d.before a0 Z = true) (ws : List Jvm.Cond) (o0 : Addr) (p1 : Int32) (p2 : Int32) (pre : List Int32) (x : List Int32) (post : List Int32) (h0 : Heap) (n0 : Nat) (Z0 : n0 ≤ h0.size) (A_o0 : own_IA Z h0 o0 (pre ++ (x ++ post))) (hp : p1.toInt = (pre.length : Int)) (hq : p2.toInt = ((pre.length + x.length : Nat) : Int)) (h6 : (pre ++ (x ++ post)).length ≤ 6) :
    own_Met l Z (⟨"java/util/Arrays", "copyOfRange", "([III)[I"⟩ : MethodName) jdk_65_method_136_code 3 (some (.array .int)) ws ({ frames := 2, cells := 1, slots := 6, locals := 56 } : Room) #[(.ref o0), (.int p1), (.int p2)] h0 (fun (v : Option Value) (h : Heap) (L : List Loc) => ∃ (br : Addr), v = some (.ref br) ∧ Fr n0 L ∧ Keep h0 h [] ∧ h0.size ≤ br ∧ n0 ≤ br ∧ own_IA Z h br x) := by
  refine own_enter (plainFor_of_name own_pn_java_util_Arrays) ?_
  intro p e s m below meth c s₁ P hx hby hml hrt hlk hown hnm hZ X0 e0 hP
  have N0 := Fr.nil n0
  have K0 := Keep.refl h0 []
  have hml' : c.maxLocals = 3 := hml
  refine own_cast (own_efcr m o0 p1 p2) ?_
  have hl : (pre ++ (x ++ post)).length = pre.length + (x.length + post.length) := by simp
  have hlen : (Int32.ofNat (pre ++ (x ++ post)).length).toInt = ((pre ++ (x ++ post)).length : Int) := own_ofn (by omega)
  have hnew : (p2 - p1).toInt = ((x.length : Nat) : Int) := by rw [own_sub32 hq hp (by omega) (by omega)]; omega
  show own_End p e below P (s₁.setTop (mkF m 0 #[.val (.ref o0), .val (.int p1), .val (.int p2)] []))
  refine own_st (fun _ => XS.iloadN X0.here hx rfl (hb hby own_dcr_0) rfl) ?_
  show own_End p e below P (s₁.setTop (mkF m 1 #[.val (.ref o0), .val (.int p1), .val (.int p2)] [(.int p1)]))
  by_cases hc1 : p1 = (0 : Int32)
  · refine own_st (fun _ => XS.ifNo X0.here hx rfl (hb hby own_dcr_1) rfl ((if0 _ _).trans (teq hc1).2)) ?_
    show own_End p e below P (s₁.setTop (mkF m 4 #[.val (.ref o0), .val (.int p1), .val (.int p2)] []))
    refine own_st (fun _ => XS.iloadN X0.here hx rfl (hb hby own_dcr_4) rfl) ?_
    show own_End p e below P (s₁.setTop (mkF m 5 #[.val (.ref o0), .val (.int p1), .val (.int p2)] [(.int p2)]))
    refine own_st (fun _ => XS.aloadN X0.here hx rfl (hb hby own_dcr_5) rfl rfl) ?_
    show own_End p e below P (s₁.setTop (mkF m 6 #[.val (.ref o0), .val (.int p1), .val (.int p2)] [(.ref o0), (.int p2)]))
    refine own_alen X0 hx hZ e0 A_o0 (g := (mkF m 6 #[.val (.ref o0), .val (.int p1), .val (.int p2)] [(.ref o0), (.int p2)])) rfl rfl (hb hby own_dcr_6) ?_
    show own_End p e below P (s₁.setTop (mkF m 7 #[.val (.ref o0), .val (.int p1), .val (.int p2)] [(.int (Int32.ofNat (pre ++ (x ++ post)).length)), (.int p2)]))
    by_cases hc2 : p2 = (Int32.ofNat (pre ++ (x ++ post)).length)
    · refine own_st (fun _ => XS.icmpYes X0.here hx rfl (pc0 := 7) (pc' := 17) rfl (hb hby own_dcr_7) rfl (teq hc2).1 (by decide) (by decide)) ?_
      show own_End p e below P (s₁.setTop (mkF m 17 #[.val (.ref o0), .val (.int p1), .val (.int p2)] []))
      refine own_st (fun _ => XS.aloadN X0.here hx rfl (hb hby own_dcr_17) rfl rfl) ?_
      show own_End p e below P (s₁.setTop (mkF m 18 #[.val (.ref o0), .val (.int p1), .val (.int p2)] [(.ref o0)]))
      refine own_clone X0 hx hZ hown (hw _ (List.mem_of_getElem? (i := 48) rfl)) (hw _ (List.mem_of_getElem? (i := 49) rfl)) (hw _ (List.mem_of_getElem? (i := 53) rfl)) (hw _ (List.mem_of_getElem? (i := 51) rfl)) (hw _ (List.mem_of_getElem? (i := 52) rfl)) (hw _ (List.mem_of_getElem? (i := 54) rfl)) e0 A_o0 (g := (mkF m 18 #[.val (.ref o0), .val (.int p1), .val (.int p2)] [(.ref o0)])) rfl (by rw [hml']; rfl) rfl (hb hby own_dcr_18) (by decide) 0 6 (by show 2 * 0 + _ ≤ _; exact Nat.le_of_eq rfl) (by decide) h6 (by decide) (by decide) (fun T3 h3 X3 e3 E3 B3 => ?_)
      obtain ⟨b3, g3⟩ : ∃ z, z = h0.size := ⟨_, rfl⟩
      rw [← g3] at B3 ⊢
      have ne4 : o0 ≠ b3 := Nat.ne_of_lt (Nat.lt_of_lt_of_le A_o0.lt (Nat.le_of_eq g3.symm))
      have low_b3 : n0 ≤ b3 := Nat.le_trans (Nat.le_trans Z0 K0.1) (Nat.le_of_eq g3.symm)
      have sz_b3 : h0.size ≤ b3 := Nat.le_trans K0.1 (Nat.le_of_eq g3.symm)
      have K3 := Keep.ext K0 E3
      have A3 : own_IA Z h3 b3 (pre ++ (x ++ post)) := B3
      show own_End p e below P (T3.setTop (mkF m 21 #[.val (.ref o0), .val (.int p1), .val (.int p2)] [(.ref b3)]))
      obtain ⟨T5, X5, e5, st5⟩ := castY X3 hx hZ hown (hw _ (List.mem_of_getElem? (i := 55) rfl)) e3 (own_IA.ins A3) (g := (mkF m 21 #[.val (.ref o0), .val (.int p1), .val (.int p2)] [(.ref b3)])) rfl rfl (hb hby own_dcr_21)
      refine own_st (fun _ => st5 _) ?_
      show own_End p e below P (T5.setTop (mkF m 24 #[.val (.ref o0), .val (.int p1), .val (.int p2)] [(.ref b3)]))
      have Ar6 : own_IA Z h3 b3 x := by have q := A3; rwa [own_cl hp hq hc1 hc2 h6] at q
      have hfin : (fun (v : Option Value) (h : Heap) (L : List Loc) => ∃ (br : Addr), v = some (.ref br) ∧ Fr n0 L ∧ Keep h0 h [] ∧ h0.size ≤ br ∧ n0 ≤ br ∧ own_IA Z h br x) (some (.ref b3)) h3 _ := ⟨b3, rfl, N0, K3, sz_b3, low_b3, Ar6⟩
      refine own_retR X5 hx hlk hP rfl rfl hrt (hb hby own_dcr_24) (by decide) (by decide) ?_
      rw [e5]; exact hfin
    · refine own_st (fun _ => XS.icmpNo X0.here hx rfl (hb hby own_dcr_7) rfl (feq hc2).1) ?_
      show own_End p e below P (s₁.setTop (mkF m 10 #[.val (.ref o0), .val (.int p1), .val (.int p2)] []))
      refine own_st (fun _ => XS.aloadN X0.here hx rfl (hb hby own_dcr_10) rfl rfl) ?_
      show own_End p e below P (s₁.setTop (mkF m 11 #[.val (.ref o0), .val (.int p1), .val (.int p2)] [(.ref o0)]))
      refine own_st (fun _ => XS.iloadN X0.here hx rfl (hb hby own_dcr_11) rfl) ?_
      show own_End p e below P (s₁.setTop (mkF m 12 #[.val (.ref o0), .val (.int p1), .val (.int p2)] [(.int p1), (.ref o0)]))
      refine own_st (fun _ => XS.iloadN X0.here hx rfl (hb hby own_dcr_12) rfl) ?_
      show own_End p e below P (s₁.setTop (mkF m 13 #[.val (.ref o0), .val (.int p1), .val (.int p2)] [(.int p2), (.int p1), (.ref o0)]))
      refine own_callS X0 hx hZ (y := (⟨"java/util/Arrays", "copyOfRangeInt", "([III)[I"⟩ : MethodName)) hown (hw _ (List.mem_of_getElem? (i := 60) rfl)) (hw _ (List.mem_of_getElem? (i := 61) rfl)) (hw _ (List.mem_of_getElem? (i := 46) rfl)) (hw _ (List.mem_of_getElem? (i := 62) rfl)) (by decide) (own_mcri l Z a0 hw [] o0 p1 p2 pre x post h0 n0 (Nat.le_trans Z0 K0.1) A_o0 hp hq h6) 0 (by decide) (by decide) e0 (by decide) (by decide) (g := (mkF m 13 #[.val (.ref o0), .val (.int p1), .val (.int p2)] [(.int p2), (.int p1), (.ref o0)])) rfl (by rw [hml']; rfl) (argsL := [(.ref o0), (.int p1), (.int p2)]) (rest := []) rfl (lenOf own_pd_III__I_555 rfl) rfl (by show 2 * 0 + _ ≤ _; exact Nat.le_of_eq rfl) (hb hby own_dcr_13) (fun r7 T7 L7 X7 hQ7 => ?_)
      obtain ⟨br_7, rfl, Nq7, Kq7, szq_br_7, low_br_7, f0_7⟩ := hQ7
      have N7 := Fr.app N0 Nq7
      have ne8 : o0 ≠ br_7 := Nat.ne_of_lt (Nat.lt_of_lt_of_le A_o0.lt szq_br_7)
      have sz_br_7 := Nat.le_trans K0.1 szq_br_7
      have K7 := Keep.trans K0 Kq7 all0
      show own_End p e below P (T7.setTop (mkF m 16 #[.val (.ref o0), .val (.int p1), .val (.int p2)] [(.ref br_7)]))
      have Ar9 : own_IA Z T7.heap br_7 x := f0_7
      have hfin : (fun (v : Option Value) (h : Heap) (L : List Loc) => ∃ (br : Addr), v = some (.ref br) ∧ Fr n0 L ∧ Keep h0 h [] ∧ h0.size ≤ br ∧ n0 ≤ br ∧ own_IA Z h br x) (some (.ref br_7)) T7.heap _ := ⟨br_7, rfl, N7, K7, sz_br_7, low_br_7, Ar9⟩
      refine own_retR X7 hx hlk hP rfl rfl hrt (hb hby own_dcr_16) (by decide) (by decide) ?_
      exact hfin
  · refine own_st (fun _ => XS.ifYes X0.here hx rfl (pc0 := 1) (pc' := 10) rfl (hb hby own_dcr_1) rfl ((if0 _ _).trans (feq hc1).2) (by decide) (by decide)) ?_
    show own_End p e below P (s₁.setTop (mkF m 10 #[.val (.ref o0), .val (.int p1), .val (.int p2)] []))
    refine own_st (fun _ => XS.aloadN X0.here hx rfl (hb hby own_dcr_10) rfl rfl) ?_
    show own_End p e below P (s₁.setTop (mkF m 11 #[.val (.ref o0), .val (.int p1), .val (.int p2)] [(.ref o0)]))
    refine own_st (fun _ => XS.iloadN X0.here hx rfl (hb hby own_dcr_11) rfl) ?_
    show own_End p e below P (s₁.setTop (mkF m 12 #[.val (.ref o0), .val (.int p1), .val (.int p2)] [(.int p1), (.ref o0)]))
    refine own_st (fun _ => XS.iloadN X0.here hx rfl (hb hby own_dcr_12) rfl) ?_
    show own_End p e below P (s₁.setTop (mkF m 13 #[.val (.ref o0), .val (.int p1), .val (.int p2)] [(.int p2), (.int p1), (.ref o0)]))
    refine own_callS X0 hx hZ (y := (⟨"java/util/Arrays", "copyOfRangeInt", "([III)[I"⟩ : MethodName)) hown (hw _ (List.mem_of_getElem? (i := 60) rfl)) (hw _ (List.mem_of_getElem? (i := 61) rfl)) (hw _ (List.mem_of_getElem? (i := 46) rfl)) (hw _ (List.mem_of_getElem? (i := 62) rfl)) (by decide) (own_mcri l Z a0 hw [] o0 p1 p2 pre x post h0 n0 (Nat.le_trans Z0 K0.1) A_o0 hp hq h6) 0 (by decide) (by decide) e0 (by decide) (by decide) (g := (mkF m 13 #[.val (.ref o0), .val (.int p1), .val (.int p2)] [(.int p2), (.int p1), (.ref o0)])) rfl (by rw [hml']; rfl) (argsL := [(.ref o0), (.int p1), (.int p2)]) (rest := []) rfl (lenOf own_pd_III__I_555 rfl) rfl (by show 2 * 0 + _ ≤ _; exact Nat.le_of_eq rfl) (hb hby own_dcr_13) (fun r10 T10 L10 X10 hQ10 => ?_)
    obtain ⟨br_10, rfl, Nq10, Kq10, szq_br_10, low_br_10, f0_10⟩ := hQ10
    have N10 := Fr.app N0 Nq10
    have ne11 : o0 ≠ br_10 := Nat.ne_of_lt (Nat.lt_of_lt_of_le A_o0.lt szq_br_10)
    have sz_br_10 := Nat.le_trans K0.1 szq_br_10
    have K10 := Keep.trans K0 Kq10 all0
    show own_End p e below P (T10.setTop (mkF m 16 #[.val (.ref o0), .val (.int p1), .val (.int p2)] [(.ref br_10)]))
    have Ar12 : own_IA Z T10.heap br_10 x := f0_10
    have hfin : (fun (v : Option Value) (h : Heap) (L : List Loc) => ∃ (br : Addr), v = some (.ref br) ∧ Fr n0 L ∧ Keep h0 h [] ∧ h0.size ≤ br ∧ n0 ≤ br ∧ own_IA Z h br x) (some (.ref br_10)) T10.heap _ := ⟨br_10, rfl, N10, K10, sz_br_10, low_br_10, Ar12⟩
    refine own_retR X10 hx hlk hP rfl rfl hrt (hb hby own_dcr_16) (by decide) (by decide) ?_
    exact hfin
theorem own_dinit_0 : decode prog_17_method_1_code 0 = .ok (.aload_n 0, 1) := by decide +kernel
theorem own_dinit_1 : decode prog_17_method_1_code 1 = .ok (.invokespecial 1, 3) := by decide +kernel
theorem own_dinit_4 : decode prog_17_method_1_code 4 = .ok (.aload_n 0, 1) := by decide +kernel
theorem own_dinit_5 : decode prog_17_method_1_code 5 = .ok (.iload_n 2, 1) := by decide +kernel
theorem own_dinit_6 : decode prog_17_method_1_code 6 = .ok (.newarray .int, 2) := by decide +kernel
theorem own_dinit_8 : decode prog_17_method_1_code 8 = .ok (.putfield 7, 3) := by decide +kernel
theorem own_dinit_11 : decode prog_17_method_1_code 11 = .ok (.aload_n 0, 1) := by decide +kernel
theorem own_dinit_12 : decode prog_17_method_1_code 12 = .ok (.iload_n 1, 1) := by decide +kernel
theorem own_dinit_13 : decode prog_17_method_1_code 13 = .ok (.iconst 1, 1) := by decide +kernel
theorem own_dinit_14 : decode prog_17_method_1_code 14 = .ok (.iadd, 1) := by decide +kernel
theorem own_dinit_15 : decode prog_17_method_1_code 15 = .ok (.newarray .int, 2) := by decide +kernel
theorem own_dinit_17 : decode prog_17_method_1_code 17 = .ok (.putfield 13, 3) := by decide +kernel
theorem own_dinit_20 : decode prog_17_method_1_code 20 = .ok (.return_, 1) := by decide +kernel
theorem own_efinit (m : MethodId) (o0 : Addr) (p2 : Int32) : entryFrame m #[(.ref o0), (.int (3 : Int32)), (.int p2)] 3 = mkF m 0 #[.val (.ref o0), .val (.int (3 : Int32)), .val (.int p2)] [] := by first | (simp [entryFrame, mkF, argsToLocals, Value.category]; done) | rfl
theorem own_pn_com_example_ruangwaktu_ruangwaktu_exam_Enrolments : plainName "com/example/ruangwaktu/ruangwaktu/exam/Enrolments" = true := by first | (simp [plainName, overriddenIn]; done) | decide +kernel
set_option maxRecDepth 65536 in
set_option maxHeartbeats 40000000 in
theorem own_minit (l : Launch) (Z : State) (a0 : Array Value) (hw : ∀ d ∈ tables_1, d.before a0 Z = true) (ws : List Jvm.Cond) (o0 : Addr) (p2 : Int32) (n2 : Nat) (h0 : Heap) (n0 : Nat) (Z0 : n0 ≤ h0.size) (E_o0 : Exa Z h0 o0 "com/example/ruangwaktu/ruangwaktu/exam/Enrolments") (F_o0__exams : Fld Z h0 o0 "com/example/ruangwaktu/ruangwaktu/exam/Enrolments" "_exams" "[I" .null) (F_o0__starts : Fld Z h0 o0 "com/example/ruangwaktu/ruangwaktu/exam/Enrolments" "_starts" "[I" .null) (F_o0__students : Fld Z h0 o0 "com/example/ruangwaktu/ruangwaktu/exam/Enrolments" "_students" "I" (.int (0 : Int32))) (low_o0 : n0 ≤ o0) (hn2 : p2.toInt = (n2 : Int)) (hc2 : n2 ≤ 6) :
    own_Met l Z (⟨"com/example/ruangwaktu/ruangwaktu/exam/Enrolments", "<init>", "(II)V"⟩ : MethodName) prog_17_method_1_code 3 none ws ({ frames := 1, cells := 2, slots := 10, locals := 12 } : Room) #[(.ref o0), (.int (3 : Int32)), (.int p2)] h0 (fun (v : Option Value) (h : Heap) (L : List Loc) => ∃ (b2 : Addr) (b7 : Addr), v = none ∧ Fr n0 L ∧ Keep h0 h [o0] ∧ h0.size ≤ b2 ∧ n0 ≤ b2 ∧ h0.size ≤ b7 ∧ n0 ≤ b7 ∧ b2 ≠ b7 ∧ Exa Z h o0 "com/example/ruangwaktu/ruangwaktu/exam/Enrolments" ∧ Fld Z h o0 "com/example/ruangwaktu/ruangwaktu/exam/Enrolments" "_exams" "[I" (.ref b2) ∧ Fld Z h o0 "com/example/ruangwaktu/ruangwaktu/exam/Enrolments" "_starts" "[I" (.ref b7) ∧ Fld Z h o0 "com/example/ruangwaktu/ruangwaktu/exam/Enrolments" "_students" "I" (.int (0 : Int32)) ∧ own_IA Z h b2 (List.replicate n2 (0 : Int32)) ∧ own_IA Z h b7 [(0 : Int32), (0 : Int32), (0 : Int32), (0 : Int32)]) := by
  refine own_enter (plainFor_of_name own_pn_com_example_ruangwaktu_ruangwaktu_exam_Enrolments) ?_
  intro p e s m below meth c s₁ P hx hby hml hrt hlk hown hnm hZ X0 e0 hP
  have N0 := Fr.nil n0
  have K0 := Keep.refl h0 [o0]
  have hml' : c.maxLocals = 3 := hml
  refine own_cast (own_efinit m o0 p2) ?_
  show own_End p e below P (s₁.setTop (mkF m 0 #[.val (.ref o0), .val (.int (3 : Int32)), .val (.int p2)] []))
  refine own_st (fun _ => XS.aloadN X0.here hx rfl (hb hby own_dinit_0) rfl rfl) ?_
  show own_End p e below P (s₁.setTop (mkF m 1 #[.val (.ref o0), .val (.int (3 : Int32)), .val (.int p2)] [(.ref o0)]))
  obtain ⟨T1, X1, e1, st1⟩ := initO X0 hx hZ hown (hw _ (List.mem_of_getElem? (i := 11) rfl)) (hw _ (List.mem_of_getElem? (i := 12) rfl)) (hw _ (List.mem_of_getElem? (i := 13) rfl)) e0 (g := (mkF m 1 #[.val (.ref o0), .val (.int (3 : Int32)), .val (.int p2)] [(.ref o0)])) rfl (by rw [hml']; rfl) rfl (hb hby own_dinit_1) (by decide) (W := 0) (by show 2 * 0 + _ ≤ _; exact Nat.le_of_eq rfl) (by decide)
  refine own_st (fun _ => st1 _) ?_
  show own_End p e below P (T1.setTop (mkF m 4 #[.val (.ref o0), .val (.int (3 : Int32)), .val (.int p2)] []))
  refine own_st (fun _ => XS.aloadN X1.here hx rfl (hb hby own_dinit_4) rfl rfl) ?_
  show own_End p e below P (T1.setTop (mkF m 5 #[.val (.ref o0), .val (.int (3 : Int32)), .val (.int p2)] [(.ref o0)]))
  refine own_st (fun _ => XS.iloadN X1.here hx rfl (hb hby own_dinit_5) rfl) ?_
  show own_End p e below P (T1.setTop (mkF m 6 #[.val (.ref o0), .val (.int (3 : Int32)), .val (.int p2)] [(.int p2), (.ref o0)]))
  refine own_newI X1 hx hZ (hw _ (List.mem_of_getElem? (i := 4) rfl)) e1 (j := p2) (n := n2) hn2 6 hc2 (by decide) (by decide) (by decide) (g := (mkF m 6 #[.val (.ref o0), .val (.int (3 : Int32)), .val (.int p2)] [(.int p2), (.ref o0)])) rfl rfl (hb hby own_dinit_6) (fun T2 h2 X2 e2 E2 B2 => ?_)
  obtain ⟨b2, g2⟩ : ∃ z, z = h0.size := ⟨_, rfl⟩
  rw [← g2] at B2 ⊢
  have ne3 : o0 ≠ b2 := Nat.ne_of_lt (Nat.lt_of_lt_of_le E_o0.lt (Nat.le_of_eq g2.symm))
  have low_b2 : n0 ≤ b2 := Nat.le_trans (Nat.le_trans Z0 K0.1) (Nat.le_of_eq g2.symm)
  have sz_b2 : h0.size ≤ b2 := Nat.le_trans K0.1 (Nat.le_of_eq g2.symm)
  have K2 := Keep.ext K0 E2
  have A2 : own_IA Z h2 b2 (List.replicate n2 (0 : Int32)) := B2
  show own_End p e below P (T2.setTop (mkF m 8 #[.val (.ref o0), .val (.int (3 : Int32)), .val (.int p2)] [(.ref b2), (.ref o0)]))
  have G4 := (F_o0__exams.ext E2)
  have G5 := (E_o0.ext E2)
  obtain ⟨T6, h6, X6, e6, W6, st6⟩ := putF X2 hx hZ hown (host := "") (Or.inl (hw _ (List.mem_of_getElem? (i := 14) rfl))) Via.refl e2 G4 G5 (Or.inr ⟨(hw _ (List.mem_of_getElem? (i := 15) rfl)), rfl, hnm⟩) (hw _ (List.mem_of_getElem? (i := 6) rfl)) (ty := (.array .int)) (by decide) rfl rfl (g := (mkF m 8 #[.val (.ref o0), .val (.int (3 : Int32)), .val (.int p2)] [(.ref b2), (.ref o0)])) rfl rfl (hb hby own_dinit_8)
  have N6 := Fr.snoc X6 N0 low_o0
  have K6 := Keep.wr K2 W6 (Or.inl (List.mem_of_getElem? (i := 0) rfl))
  have F6 := G4.same W6
  refine own_st (fun _ => st6 _) ?_
  show own_End p e below P (T6.setTop (mkF m 11 #[.val (.ref o0), .val (.int (3 : Int32)), .val (.int p2)] []))
  refine own_st (fun _ => XS.aloadN X6.here hx rfl (hb hby own_dinit_11) rfl rfl) ?_
  show own_End p e below P (T6.setTop (mkF m 12 #[.val (.ref o0), .val (.int (3 : Int32)), .val (.int p2)] [(.ref o0)]))
  refine own_st (fun _ => XS.iloadN X6.here hx rfl (hb hby own_dinit_12) rfl) ?_
  show own_End p e below P (T6.setTop (mkF m 13 #[.val (.ref o0), .val (.int (3 : Int32)), .val (.int p2)] [(.int (3 : Int32)), (.ref o0)]))
  refine own_st (fun _ => XS.iconst X6.here hx rfl (hb hby own_dinit_13)) ?_
  show own_End p e below P (T6.setTop (mkF m 14 #[.val (.ref o0), .val (.int (3 : Int32)), .val (.int p2)] [(.int (1 : Int32)), (.int (3 : Int32)), (.ref o0)]))
  refine own_st (fun _ => XS.iadd X6.here hx rfl (hb hby own_dinit_14) rfl) ?_
  show own_End p e below P (T6.setTop (mkF m 15 #[.val (.ref o0), .val (.int (3 : Int32)), .val (.int p2)] [(.int (4 : Int32)), (.ref o0)]))
  refine own_newI X6 hx hZ (hw _ (List.mem_of_getElem? (i := 4) rfl)) e6 (j := (4 : Int32)) (n := 4) (by decide) 4 (by decide) (by decide) (by decide) (by decide) (g := (mkF m 15 #[.val (.ref o0), .val (.int (3 : Int32)), .val (.int p2)] [(.int (4 : Int32)), (.ref o0)])) rfl rfl (hb hby own_dinit_15) (fun T7 h7 X7 e7 E7 B7 => ?_)
  obtain ⟨b7, g7⟩ : ∃ z, z = h6.size := ⟨_, rfl⟩
  rw [← g7] at B7 ⊢
  have G9 := (A2.other W6 (Ne.symm ne3))
  have ne8 : b2 ≠ b7 := Nat.ne_of_lt (Nat.lt_of_lt_of_le G9.lt (Nat.le_of_eq g7.symm))
  have G11 := (G5.wr W6)
  have ne10 : o0 ≠ b7 := Nat.ne_of_lt (Nat.lt_of_lt_of_le G11.lt (Nat.le_of_eq g7.symm))
  have low_b7 : n0 ≤ b7 := Nat.le_trans (Nat.le_trans Z0 K6.1) (Nat.le_of_eq g7.symm)
  have sz_b7 : h0.size ≤ b7 := Nat.le_trans K6.1 (Nat.le_of_eq g7.symm)
  have K7 := Keep.ext K6 E7
  have A7 : own_IA Z h7 b7 [(0 : Int32), (0 : Int32), (0 : Int32), (0 : Int32)] := B7
  show own_End p e below P (T7.setTop (mkF m 17 #[.val (.ref o0), .val (.int (3 : Int32)), .val (.int p2)] [(.ref b7), (.ref o0)]))
  have G12 := (((F_o0__starts.ext E2).other W6 (Or.inr (slot_ne (Or.inr (hw _ (List.mem_of_getElem? (i := 17) rfl))) (Or.inr (hw _ (List.mem_of_getElem? (i := 15) rfl))) (by decide) (t := (.array .int)) (t' := (.array .int)) (by decide) (by decide)))).ext E7)
  have G13 := (G11.ext E7)
  obtain ⟨T14, h14, X14, e14, W14, st14⟩ := putF X7 hx hZ hown (host := "") (Or.inl (hw _ (List.mem_of_getElem? (i := 16) rfl))) Via.refl e7 G12 G13 (Or.inr ⟨(hw _ (List.mem_of_getElem? (i := 17) rfl)), rfl, hnm⟩) (hw _ (List.mem_of_getElem? (i := 6) rfl)) (ty := (.array .int)) (by decide) rfl rfl (g := (mkF m 17 #[.val (.ref o0), .val (.int (3 : Int32)), .val (.int p2)] [(.ref b7), (.ref o0)])) rfl rfl (hb hby own_dinit_17)
  have N14 := Fr.snoc X14 N6 low_o0
  have K14 := Keep.wr K7 W14 (Or.inl (List.mem_of_getElem? (i := 0) rfl))
  have F14 := G12.same W14
  refine own_st (fun _ => st14 _) ?_
  show own_End p e below P (T14.setTop (mkF m 20 #[.val (.ref o0), .val (.int (3 : Int32)), .val (.int p2)] []))
  have G15 := (G13.wr W14)
  have G16 := ((F6.ext E7).other W14 (Or.inr (slot_ne (Or.inr (hw _ (List.mem_of_getElem? (i := 15) rfl))) (Or.inr (hw _ (List.mem_of_getElem? (i := 17) rfl))) (by decide) (t := (.array .int)) (t' := (.array .int)) (by decide) (by decide))))
  have G17 := ((((F_o0__students.ext E2).other W6 (Or.inr (slot_ne (Or.inl (hw _ (List.mem_of_getElem? (i := 24) rfl))) (Or.inr (hw _ (List.mem_of_getElem? (i := 15) rfl))) (by decide) (t := .int) (t' := (.array .int)) (by decide) (by decide)))).ext E7).other W14 (Or.inr (slot_ne (Or.inl (hw _ (List.mem_of_getElem? (i := 24) rfl))) (Or.inr (hw _ (List.mem_of_getElem? (i := 17) rfl))) (by decide) (t := .int) (t' := (.array .int)) (by decide) (by decide))))
  have G18 := ((G9.ext E7).other W14 (Ne.symm ne3))
  have G19 := (A7.other W14 (Ne.symm ne10))
  have hfin : ((fun (v : Option Value) (h : Heap) (L : List Loc) => ∃ (b2 : Addr) (b7 : Addr), v = none ∧ Fr n0 L ∧ Keep h0 h [o0] ∧ h0.size ≤ b2 ∧ n0 ≤ b2 ∧ h0.size ≤ b7 ∧ n0 ≤ b7 ∧ b2 ≠ b7 ∧ Exa Z h o0 "com/example/ruangwaktu/ruangwaktu/exam/Enrolments" ∧ Fld Z h o0 "com/example/ruangwaktu/ruangwaktu/exam/Enrolments" "_exams" "[I" (.ref b2) ∧ Fld Z h o0 "com/example/ruangwaktu/ruangwaktu/exam/Enrolments" "_starts" "[I" (.ref b7) ∧ Fld Z h o0 "com/example/ruangwaktu/ruangwaktu/exam/Enrolments" "_students" "I" (.int (0 : Int32)) ∧ own_IA Z h b2 (List.replicate n2 (0 : Int32)) ∧ own_IA Z h b7 [(0 : Int32), (0 : Int32), (0 : Int32), (0 : Int32)])) none h14 _ := ⟨b2, b7, rfl, N14, K14, sz_b2, low_b2, sz_b7, low_b7, ne8, G15, G16, F14, G17, G18, G19⟩
  refine own_retV X14 hx hlk hP hrt (hb hby own_dinit_20) (by decide) (by decide) ?_
  rw [e14]; exact hfin
theorem own_dadd0_0 : decode prog_17_method_2_code 0 = .ok (.aload_n 0, 1) := by decide +kernel
theorem own_dadd0_1 : decode prog_17_method_2_code 1 = .ok (.getfield 13, 3) := by decide +kernel
theorem own_dadd0_4 : decode prog_17_method_2_code 4 = .ok (.aload_n 0, 1) := by decide +kernel
theorem own_dadd0_5 : decode prog_17_method_2_code 5 = .ok (.getfield 16, 3) := by decide +kernel
theorem own_dadd0_8 : decode prog_17_method_2_code 8 = .ok (.iaload, 1) := by decide +kernel
theorem own_dadd0_9 : decode prog_17_method_2_code 9 = .ok (.istore_n 2, 1) := by decide +kernel
theorem own_dadd0_10 : decode prog_17_method_2_code 10 = .ok (.aload_n 1, 1) := by decide +kernel
theorem own_dadd0_11 : decode prog_17_method_2_code 11 = .ok (.iconst 0, 1) := by decide +kernel
theorem own_dadd0_12 : decode prog_17_method_2_code 12 = .ok (.aload_n 0, 1) := by decide +kernel
theorem own_dadd0_13 : decode prog_17_method_2_code 13 = .ok (.getfield 7, 3) := by decide +kernel
theorem own_dadd0_16 : decode prog_17_method_2_code 16 = .ok (.iload_n 2, 1) := by decide +kernel
theorem own_dadd0_17 : decode prog_17_method_2_code 17 = .ok (.aload_n 1, 1) := by decide +kernel
theorem own_dadd0_18 : decode prog_17_method_2_code 18 = .ok (.arraylength, 1) := by decide +kernel
theorem own_dadd0_19 : decode prog_17_method_2_code 19 = .ok (.invokestatic 20, 3) := by decide +kernel
theorem own_dadd0_22 : decode prog_17_method_2_code 22 = .ok (.aload_n 0, 1) := by decide +kernel
theorem own_dadd0_23 : decode prog_17_method_2_code 23 = .ok (.dup, 1) := by decide +kernel
theorem own_dadd0_24 : decode prog_17_method_2_code 24 = .ok (.getfield 16, 3) := by decide +kernel
theorem own_dadd0_27 : decode prog_17_method_2_code 27 = .ok (.iconst 1, 1) := by decide +kernel
theorem own_dadd0_28 : decode prog_17_method_2_code 28 = .ok (.iadd, 1) := by decide +kernel
theorem own_dadd0_29 : decode prog_17_method_2_code 29 = .ok (.putfield 16, 3) := by decide +kernel
theorem own_dadd0_32 : decode prog_17_method_2_code 32 = .ok (.aload_n 0, 1) := by decide +kernel
theorem own_dadd0_33 : decode prog_17_method_2_code 33 = .ok (.getfield 13, 3) := by decide +kernel
theorem own_dadd0_36 : decode prog_17_method_2_code 36 = .ok (.aload_n 0, 1) := by decide +kernel
theorem own_dadd0_37 : decode prog_17_method_2_code 37 = .ok (.getfield 16, 3) := by decide +kernel
theorem own_dadd0_40 : decode prog_17_method_2_code 40 = .ok (.iload_n 2, 1) := by decide +kernel
theorem own_dadd0_41 : decode prog_17_method_2_code 41 = .ok (.aload_n 1, 1) := by decide +kernel
theorem own_dadd0_42 : decode prog_17_method_2_code 42 = .ok (.arraylength, 1) := by decide +kernel
theorem own_dadd0_43 : decode prog_17_method_2_code 43 = .ok (.iadd, 1) := by decide +kernel
theorem own_dadd0_44 : decode prog_17_method_2_code 44 = .ok (.iastore, 1) := by decide +kernel
theorem own_dadd0_45 : decode prog_17_method_2_code 45 = .ok (.return_, 1) := by decide +kernel
theorem own_efadd0 (m : MethodId) (o0 : Addr) (o1 : Addr) : entryFrame m #[(.ref o0), (.ref o1)] 3 = mkF m 0 #[.val (.ref o0), .val (.ref o1), .unset] [] := by first | (simp [entryFrame, mkF, argsToLocals, Value.category]; done) | rfl
set_option maxRecDepth 65536 in
set_option maxHeartbeats 40000000 in
theorem own_madd0 (l : Launch) (Z : State) (a0 : Array Value) (hw : ∀ d ∈ tables_1, d.before a0 Z = true) (ws : List Jvm.Cond) (o0 : Addr) (o1 : Addr) (xs : List Int32) (pre : List Int32) (r : Nat) (w_o0__exams : Addr) (w_o0__starts : Addr) (h0 : Heap) (n0 : Nat) (Z0 : n0 ≤ h0.size) (E_o0 : Exa Z h0 o0 "com/example/ruangwaktu/ruangwaktu/exam/Enrolments") (F_o0__exams : Fld Z h0 o0 "com/example/ruangwaktu/ruangwaktu/exam/Enrolments" "_exams" "[I" (.ref w_o0__exams)) (F_o0__starts : Fld Z h0 o0 "com/example/ruangwaktu/ruangwaktu/exam/Enrolments" "_starts" "[I" (.ref w_o0__starts)) (F_o0__students : Fld Z h0 o0 "com/example/ruangwaktu/ruangwaktu/exam/Enrolments" "_students" "I" (.int (0 : Int32))) (A_o1 : own_IA Z h0 o1 xs) (A_w_o0__exams : own_IA Z h0 w_o0__exams (pre ++ List.replicate r (0 : Int32))) (A_w_o0__starts : own_IA Z h0 w_o0__starts [(0 : Int32), (0 : Int32), (0 : Int32), (0 : Int32)]) (low_o0 : n0 ≤ o0) (low_w_o0__exams : n0 ≤ w_o0__exams) (low_w_o0__starts : n0 ≤ w_o0__starts) (ne_o0_w_o0__exams : o0 ≠ w_o0__exams) (ne_o0_w_o0__starts : o0 ≠ w_o0__starts) (ne_w_o0__exams_w_o0__starts : w_o0__exams ≠ w_o0__starts) (ne_o1_o0 : o1 ≠ o0) (ne_o1_w_o0__exams : o1 ≠ w_o0__exams) (ne_o1_w_o0__starts : o1 ≠ w_o0__starts) (hv : (0 : Int32).toInt = (pre.length : Int)) (hr : xs.length ≤ r) :
    own_Met l Z (⟨"com/example/ruangwaktu/ruangwaktu/exam/Enrolments", "add", "([I)V"⟩ : MethodName) prog_17_method_2_code 3 none ws ({ frames := 1, cells := 0, slots := 0, locals := 40 } : Room) #[(.ref o0), (.ref o1)] h0 (fun (v : Option Value) (h : Heap) (L : List Loc) => v = none ∧ Fr n0 L ∧ Keep h0 h [o0, w_o0__exams, w_o0__starts] ∧ Exa Z h o0 "com/example/ruangwaktu/ruangwaktu/exam/Enrolments" ∧ Fld Z h o0 "com/example/ruangwaktu/ruangwaktu/exam/Enrolments" "_exams" "[I" (.ref w_o0__exams) ∧ Fld Z h o0 "com/example/ruangwaktu/ruangwaktu/exam/Enrolments" "_starts" "[I" (.ref w_o0__starts) ∧ Fld Z h o0 "com/example/ruangwaktu/ruangwaktu/exam/Enrolments" "_students" "I" (.int (1 : Int32)) ∧ own_IA Z h w_o0__exams ((pre ++ xs) ++ List.replicate (r - xs.length) (0 : Int32)) ∧ own_IA Z h w_o0__starts [(0 : Int32), ((0 : Int32) + (Int32.ofNat xs.length)), (0 : Int32), (0 : Int32)]) := by
  refine own_enter (plainFor_of_name own_pn_com_example_ruangwaktu_ruangwaktu_exam_Enrolments) ?_
  intro p e s m below meth c s₁ P hx hby hml hrt hlk hown hnm hZ X0 e0 hP
  have N0 := Fr.nil n0
  have K0 := Keep.refl h0 [o0, w_o0__exams, w_o0__starts]
  have hml' : c.maxLocals = 3 := hml
  refine own_cast (own_efadd0 m o0 o1) ?_
  have hxl : (Int32.ofNat xs.length).toInt = (xs.length : Int) := own_ofn A_o1.len
  show own_End p e below P (s₁.setTop (mkF m 0 #[.val (.ref o0), .val (.ref o1), .unset] []))
  refine own_st (fun _ => XS.aloadN X0.here hx rfl (hb hby own_dadd0_0) rfl rfl) ?_
  show own_End p e below P (s₁.setTop (mkF m 1 #[.val (.ref o0), .val (.ref o1), .unset] [(.ref o0)]))
  obtain ⟨T1, X1, e1, st1⟩ := getF X0 hx hZ hown (host := "") (Or.inl (hw _ (List.mem_of_getElem? (i := 16) rfl))) Via.refl e0 F_o0__starts (g := (mkF m 1 #[.val (.ref o0), .val (.ref o1), .unset] [(.ref o0)])) rfl rfl (hb hby own_dadd0_1)
  refine own_st (fun _ => st1 _) ?_
  show own_End p e below P (T1.setTop (mkF m 4 #[.val (.ref o0), .val (.ref o1), .unset] [(.ref w_o0__starts)]))
  refine own_st (fun _ => XS.aloadN X1.here hx rfl (hb hby own_dadd0_4) rfl rfl) ?_
  show own_End p e below P (T1.setTop (mkF m 5 #[.val (.ref o0), .val (.ref o1), .unset] [(.ref o0), (.ref w_o0__starts)]))
  obtain ⟨T2, X2, e2, st2⟩ := getF X1 hx hZ hown (host := "") (Or.inl (hw _ (List.mem_of_getElem? (i := 23) rfl))) Via.refl e1 F_o0__students (g := (mkF m 5 #[.val (.ref o0), .val (.ref o1), .unset] [(.ref o0), (.ref w_o0__starts)])) rfl rfl (hb hby own_dadd0_5)
  refine own_st (fun _ => st2 _) ?_
  show own_End p e below P (T2.setTop (mkF m 8 #[.val (.ref o0), .val (.ref o1), .unset] [(.int (0 : Int32)), (.ref w_o0__starts)]))
  refine own_iaload X2 hx hZ e2 A_w_o0__starts (j := (0 : Int32)) (v := (0 : Int32)) (i := 0) (by decide) rfl (g := (mkF m 8 #[.val (.ref o0), .val (.ref o1), .unset] [(.int (0 : Int32)), (.ref w_o0__starts)])) rfl rfl (hb hby own_dadd0_8) ?_
  show own_End p e below P (T2.setTop (mkF m 9 #[.val (.ref o0), .val (.ref o1), .unset] [(.int (0 : Int32))]))
  refine own_st (fun _ => XS.istoreN X2.here hx rfl (hb hby own_dadd0_9) rfl (l' := #[.val (.ref o0), .val (.ref o1), .val (.int (0 : Int32))]) rfl) ?_
  show own_End p e below P (T2.setTop (mkF m 10 #[.val (.ref o0), .val (.ref o1), .val (.int (0 : Int32))] []))
  refine own_st (fun _ => XS.aloadN X2.here hx rfl (hb hby own_dadd0_10) rfl rfl) ?_
  show own_End p e below P (T2.setTop (mkF m 11 #[.val (.ref o0), .val (.ref o1), .val (.int (0 : Int32))] [(.ref o1)]))
  refine own_st (fun _ => XS.iconst X2.here hx rfl (hb hby own_dadd0_11)) ?_
  show own_End p e below P (T2.setTop (mkF m 12 #[.val (.ref o0), .val (.ref o1), .val (.int (0 : Int32))] [(.int (0 : Int32)), (.ref o1)]))
  refine own_st (fun _ => XS.aloadN X2.here hx rfl (hb hby own_dadd0_12) rfl rfl) ?_
  show own_End p e below P (T2.setTop (mkF m 13 #[.val (.ref o0), .val (.ref o1), .val (.int (0 : Int32))] [(.ref o0), (.int (0 : Int32)), (.ref o1)]))
  obtain ⟨T3, X3, e3, st3⟩ := getF X2 hx hZ hown (host := "") (Or.inl (hw _ (List.mem_of_getElem? (i := 14) rfl))) Via.refl e2 F_o0__exams (g := (mkF m 13 #[.val (.ref o0), .val (.ref o1), .val (.int (0 : Int32))] [(.ref o0), (.int (0 : Int32)), (.ref o1)])) rfl rfl (hb hby own_dadd0_13)
  refine own_st (fun _ => st3 _) ?_
  show own_End p e below P (T3.setTop (mkF m 16 #[.val (.ref o0), .val (.ref o1), .val (.int (0 : Int32))] [(.ref w_o0__exams), (.int (0 : Int32)), (.ref o1)]))
  refine own_st (fun _ => XS.iloadN X3.here hx rfl (hb hby own_dadd0_16) rfl) ?_
  show own_End p e below P (T3.setTop (mkF m 17 #[.val (.ref o0), .val (.ref o1), .val (.int (0 : Int32))] [(.int (0 : Int32)), (.ref w_o0__exams), (.int (0 : Int32)), (.ref o1)]))
  refine own_st (fun _ => XS.aloadN X3.here hx rfl (hb hby own_dadd0_17) rfl rfl) ?_
  show own_End p e below P (T3.setTop (mkF m 18 #[.val (.ref o0), .val (.ref o1), .val (.int (0 : Int32))] [(.ref o1), (.int (0 : Int32)), (.ref w_o0__exams), (.int (0 : Int32)), (.ref o1)]))
  refine own_alen X3 hx hZ e3 A_o1 (g := (mkF m 18 #[.val (.ref o0), .val (.ref o1), .val (.int (0 : Int32))] [(.ref o1), (.int (0 : Int32)), (.ref w_o0__exams), (.int (0 : Int32)), (.ref o1)])) rfl rfl (hb hby own_dadd0_18) ?_
  show own_End p e below P (T3.setTop (mkF m 19 #[.val (.ref o0), .val (.ref o1), .val (.int (0 : Int32))] [(.int (Int32.ofNat xs.length)), (.int (0 : Int32)), (.ref w_o0__exams), (.int (0 : Int32)), (.ref o1)]))
  refine own_copy X3 hx hZ hown (hw _ (List.mem_of_getElem? (i := 25) rfl)) (hw _ (List.mem_of_getElem? (i := 28) rfl)) (hw _ (List.mem_of_getElem? (i := 26) rfl)) (hw _ (List.mem_of_getElem? (i := 27) rfl)) e3 A_o1 A_w_o0__exams (sp := 0) (dp := pre.length) (n := xs.length) own_z32 hv hxl (by omega) (by simp; omega) N0 low_w_o0__exams (g := (mkF m 19 #[.val (.ref o0), .val (.ref o1), .val (.int (0 : Int32))] [(.int (Int32.ofNat xs.length)), (.int (0 : Int32)), (.ref w_o0__exams), (.int (0 : Int32)), (.ref o1)])) rfl (by rw [hml']; rfl) rfl (hb hby own_dadd0_19) (by decide) 0 (by show 2 * 0 + _ ≤ _; exact Nat.le_of_eq rfl) (by decide) (fun T4 h4 L4 X4 e4 N4 Kq4 B4 => ?_)
  have A4 : own_IA Z h4 w_o0__exams ((pre ++ xs) ++ List.replicate (r - xs.length) (0 : Int32)) := by have q := B4; rwa [own_cpy pre xs r hr] at q
  have K4 := Keep.trans K0 Kq4 (allS (Or.inl (List.mem_of_getElem? (i := 1) rfl)) all0)
  show own_End p e below P (T4.setTop (mkF m 22 #[.val (.ref o0), .val (.ref o1), .val (.int (0 : Int32))] []))
  refine own_st (fun _ => XS.aloadN X4.here hx rfl (hb hby own_dadd0_22) rfl rfl) ?_
  show own_End p e below P (T4.setTop (mkF m 23 #[.val (.ref o0), .val (.ref o1), .val (.int (0 : Int32))] [(.ref o0)]))
  refine own_st (fun _ => XS.dup X4.here hx rfl (hb hby own_dadd0_23) rfl rfl) ?_
  show own_End p e below P (T4.setTop (mkF m 24 #[.val (.ref o0), .val (.ref o1), .val (.int (0 : Int32))] [(.ref o0), (.ref o0)]))
  have G5 := (F_o0__students.keep Kq4 (ninS ne_o0_w_o0__exams nin0))
  obtain ⟨T6, X6, e6, st6⟩ := getF X4 hx hZ hown (host := "") (Or.inl (hw _ (List.mem_of_getElem? (i := 23) rfl))) Via.refl e4 G5 (g := (mkF m 24 #[.val (.ref o0), .val (.ref o1), .val (.int (0 : Int32))] [(.ref o0), (.ref o0)])) rfl rfl (hb hby own_dadd0_24)
  refine own_st (fun _ => st6 _) ?_
  show own_End p e below P (T6.setTop (mkF m 27 #[.val (.ref o0), .val (.ref o1), .val (.int (0 : Int32))] [(.int (0 : Int32)), (.ref o0)]))
  refine own_st (fun _ => XS.iconst X6.here hx rfl (hb hby own_dadd0_27)) ?_
  show own_End p e below P (T6.setTop (mkF m 28 #[.val (.ref o0), .val (.ref o1), .val (.int (0 : Int32))] [(.int (1 : Int32)), (.int (0 : Int32)), (.ref o0)]))
  refine own_st (fun _ => XS.iadd X6.here hx rfl (hb hby own_dadd0_28) rfl) ?_
  show own_End p e below P (T6.setTop (mkF m 29 #[.val (.ref o0), .val (.ref o1), .val (.int (0 : Int32))] [(.int (1 : Int32)), (.ref o0)]))
  have G7 := (E_o0.keep Kq4)
  obtain ⟨T8, h8, X8, e8, W8, st8⟩ := putF X6 hx hZ hown (host := "") (Or.inl (hw _ (List.mem_of_getElem? (i := 23) rfl))) Via.refl e6 G5 G7 (Or.inl (hw _ (List.mem_of_getElem? (i := 24) rfl))) (hw _ (List.mem_of_getElem? (i := 6) rfl)) (ty := .int) (by decide) rfl rfl (g := (mkF m 29 #[.val (.ref o0), .val (.ref o1), .val (.int (0 : Int32))] [(.int (1 : Int32)), (.ref o0)])) rfl rfl (hb hby own_dadd0_29)
  have N8 := Fr.snoc X8 N4 low_o0
  have K8 := Keep.wr K4 W8 (Or.inl (List.mem_of_getElem? (i := 0) rfl))
  have F8 := G5.same W8
  refine own_st (fun _ => st8 _) ?_
  show own_End p e below P (T8.setTop (mkF m 32 #[.val (.ref o0), .val (.ref o1), .val (.int (0 : Int32))] []))
  refine own_st (fun _ => XS.aloadN X8.here hx rfl (hb hby own_dadd0_32) rfl rfl) ?_
  show own_End p e below P (T8.setTop (mkF m 33 #[.val (.ref o0), .val (.ref o1), .val (.int (0 : Int32))] [(.ref o0)]))
  have G9 := ((F_o0__starts.keep Kq4 (ninS ne_o0_w_o0__exams nin0)).other W8 (Or.inr (slot_ne (Or.inr (hw _ (List.mem_of_getElem? (i := 17) rfl))) (Or.inl (hw _ (List.mem_of_getElem? (i := 24) rfl))) (by decide) (t := (.array .int)) (t' := .int) (by decide) (by decide))))
  obtain ⟨T10, X10, e10, st10⟩ := getF X8 hx hZ hown (host := "") (Or.inl (hw _ (List.mem_of_getElem? (i := 16) rfl))) Via.refl e8 G9 (g := (mkF m 33 #[.val (.ref o0), .val (.ref o1), .val (.int (0 : Int32))] [(.ref o0)])) rfl rfl (hb hby own_dadd0_33)
  refine own_st (fun _ => st10 _) ?_
  show own_End p e below P (T10.setTop (mkF m 36 #[.val (.ref o0), .val (.ref o1), .val (.int (0 : Int32))] [(.ref w_o0__starts)]))
  refine own_st (fun _ => XS.aloadN X10.here hx rfl (hb hby own_dadd0_36) rfl rfl) ?_
  show own_End p e below P (T10.setTop (mkF m 37 #[.val (.ref o0), .val (.ref o1), .val (.int (0 : Int32))] [(.ref o0), (.ref w_o0__starts)]))
  obtain ⟨T11, X11, e11, st11⟩ := getF X10 hx hZ hown (host := "") (Or.inl (hw _ (List.mem_of_getElem? (i := 23) rfl))) Via.refl e10 F8 (g := (mkF m 37 #[.val (.ref o0), .val (.ref o1), .val (.int (0 : Int32))] [(.ref o0), (.ref w_o0__starts)])) rfl rfl (hb hby own_dadd0_37)
  refine own_st (fun _ => st11 _) ?_
  show own_End p e below P (T11.setTop (mkF m 40 #[.val (.ref o0), .val (.ref o1), .val (.int (0 : Int32))] [(.int (1 : Int32)), (.ref w_o0__starts)]))
  refine own_st (fun _ => XS.iloadN X11.here hx rfl (hb hby own_dadd0_40) rfl) ?_
  show own_End p e below P (T11.setTop (mkF m 41 #[.val (.ref o0), .val (.ref o1), .val (.int (0 : Int32))] [(.int (0 : Int32)), (.int (1 : Int32)), (.ref w_o0__starts)]))
  refine own_st (fun _ => XS.aloadN X11.here hx rfl (hb hby own_dadd0_41) rfl rfl) ?_
  show own_End p e below P (T11.setTop (mkF m 42 #[.val (.ref o0), .val (.ref o1), .val (.int (0 : Int32))] [(.ref o1), (.int (0 : Int32)), (.int (1 : Int32)), (.ref w_o0__starts)]))
  have G12 := ((A_o1.keep Kq4 (ninS ne_o1_w_o0__exams nin0)).other W8 ne_o1_o0)
  refine own_alen X11 hx hZ e11 G12 (g := (mkF m 42 #[.val (.ref o0), .val (.ref o1), .val (.int (0 : Int32))] [(.ref o1), (.int (0 : Int32)), (.int (1 : Int32)), (.ref w_o0__starts)])) rfl rfl (hb hby own_dadd0_42) ?_
  show own_End p e below P (T11.setTop (mkF m 43 #[.val (.ref o0), .val (.ref o1), .val (.int (0 : Int32))] [(.int (Int32.ofNat xs.length)), (.int (0 : Int32)), (.int (1 : Int32)), (.ref w_o0__starts)]))
  refine own_st (fun _ => XS.iadd X11.here hx rfl (hb hby own_dadd0_43) rfl) ?_
  show own_End p e below P (T11.setTop (mkF m 44 #[.val (.ref o0), .val (.ref o1), .val (.int (0 : Int32))] [(.int ((0 : Int32) + (Int32.ofNat xs.length))), (.int (1 : Int32)), (.ref w_o0__starts)]))
  have G13 := ((A_w_o0__starts.keep Kq4 (ninS (Ne.symm ne_w_o0__exams_w_o0__starts) nin0)).other W8 (Ne.symm ne_o0_w_o0__starts))
  refine own_iastore X11 hx hZ e11 G13 (j := (1 : Int32)) (v := ((0 : Int32) + (Int32.ofNat xs.length))) (i := 1) (by decide) (by show (1 : Nat) < 4; decide) (g := (mkF m 44 #[.val (.ref o0), .val (.ref o1), .val (.int (0 : Int32))] [(.int ((0 : Int32) + (Int32.ofNat xs.length))), (.int (1 : Int32)), (.ref w_o0__starts)])) rfl rfl (hb hby own_dadd0_44) (fun T14 h14 X14 e14 W14 B14 => ?_)
  have A14 : own_IA Z h14 w_o0__starts [(0 : Int32), ((0 : Int32) + (Int32.ofNat xs.length)), (0 : Int32), (0 : Int32)] := B14
  have N14 := Fr.snoc X14 N8 low_w_o0__starts
  have K14 := Keep.wr K8 W14 (Or.inl (List.mem_of_getElem? (i := 2) rfl))
  show own_End p e below P (T14.setTop (mkF m 45 #[.val (.ref o0), .val (.ref o1), .val (.int (0 : Int32))] []))
  have G15 := ((G7.wr W8).wr W14)
  have G16 := (((F_o0__exams.keep Kq4 (ninS ne_o0_w_o0__exams nin0)).other W8 (Or.inr (slot_ne (Or.inr (hw _ (List.mem_of_getElem? (i := 15) rfl))) (Or.inl (hw _ (List.mem_of_getElem? (i := 24) rfl))) (by decide) (t := (.array .int)) (t' := .int) (by decide) (by decide)))).other W14 (Or.inl ne_o0_w_o0__starts))
  have G17 := (G9.other W14 (Or.inl ne_o0_w_o0__starts))
  have G18 := (F8.other W14 (Or.inl ne_o0_w_o0__starts))
  have G19 := ((A4.other W8 (Ne.symm ne_o0_w_o0__exams)).other W14 ne_w_o0__exams_w_o0__starts)
  have hfin : ((fun (v : Option Value) (h : Heap) (L : List Loc) => v = none ∧ Fr n0 L ∧ Keep h0 h [o0, w_o0__exams, w_o0__starts] ∧ Exa Z h o0 "com/example/ruangwaktu/ruangwaktu/exam/Enrolments" ∧ Fld Z h o0 "com/example/ruangwaktu/ruangwaktu/exam/Enrolments" "_exams" "[I" (.ref w_o0__exams) ∧ Fld Z h o0 "com/example/ruangwaktu/ruangwaktu/exam/Enrolments" "_starts" "[I" (.ref w_o0__starts) ∧ Fld Z h o0 "com/example/ruangwaktu/ruangwaktu/exam/Enrolments" "_students" "I" (.int (1 : Int32)) ∧ own_IA Z h w_o0__exams ((pre ++ xs) ++ List.replicate (r - xs.length) (0 : Int32)) ∧ own_IA Z h w_o0__starts [(0 : Int32), ((0 : Int32) + (Int32.ofNat xs.length)), (0 : Int32), (0 : Int32)])) none h14 _ := ⟨rfl, N14, K14, G15, G16, G17, G18, G19, A14⟩
  refine own_retV X14 hx hlk hP hrt (hb hby own_dadd0_45) (by decide) (by decide) ?_
  rw [e14]; exact hfin
theorem own_dadd1_0 : decode prog_17_method_2_code 0 = .ok (.aload_n 0, 1) := by decide +kernel
theorem own_dadd1_1 : decode prog_17_method_2_code 1 = .ok (.getfield 13, 3) := by decide +kernel
theorem own_dadd1_4 : decode prog_17_method_2_code 4 = .ok (.aload_n 0, 1) := by decide +kernel
theorem own_dadd1_5 : decode prog_17_method_2_code 5 = .ok (.getfield 16, 3) := by decide +kernel
theorem own_dadd1_8 : decode prog_17_method_2_code 8 = .ok (.iaload, 1) := by decide +kernel
theorem own_dadd1_9 : decode prog_17_method_2_code 9 = .ok (.istore_n 2, 1) := by decide +kernel
theorem own_dadd1_10 : decode prog_17_method_2_code 10 = .ok (.aload_n 1, 1) := by decide +kernel
theorem own_dadd1_11 : decode prog_17_method_2_code 11 = .ok (.iconst 0, 1) := by decide +kernel
theorem own_dadd1_12 : decode prog_17_method_2_code 12 = .ok (.aload_n 0, 1) := by decide +kernel
theorem own_dadd1_13 : decode prog_17_method_2_code 13 = .ok (.getfield 7, 3) := by decide +kernel
theorem own_dadd1_16 : decode prog_17_method_2_code 16 = .ok (.iload_n 2, 1) := by decide +kernel
theorem own_dadd1_17 : decode prog_17_method_2_code 17 = .ok (.aload_n 1, 1) := by decide +kernel
theorem own_dadd1_18 : decode prog_17_method_2_code 18 = .ok (.arraylength, 1) := by decide +kernel
theorem own_dadd1_19 : decode prog_17_method_2_code 19 = .ok (.invokestatic 20, 3) := by decide +kernel
theorem own_dadd1_22 : decode prog_17_method_2_code 22 = .ok (.aload_n 0, 1) := by decide +kernel
theorem own_dadd1_23 : decode prog_17_method_2_code 23 = .ok (.dup, 1) := by decide +kernel
theorem own_dadd1_24 : decode prog_17_method_2_code 24 = .ok (.getfield 16, 3) := by decide +kernel
theorem own_dadd1_27 : decode prog_17_method_2_code 27 = .ok (.iconst 1, 1) := by decide +kernel
theorem own_dadd1_28 : decode prog_17_method_2_code 28 = .ok (.iadd, 1) := by decide +kernel
theorem own_dadd1_29 : decode prog_17_method_2_code 29 = .ok (.putfield 16, 3) := by decide +kernel
theorem own_dadd1_32 : decode prog_17_method_2_code 32 = .ok (.aload_n 0, 1) := by decide +kernel
theorem own_dadd1_33 : decode prog_17_method_2_code 33 = .ok (.getfield 13, 3) := by decide +kernel
theorem own_dadd1_36 : decode prog_17_method_2_code 36 = .ok (.aload_n 0, 1) := by decide +kernel
theorem own_dadd1_37 : decode prog_17_method_2_code 37 = .ok (.getfield 16, 3) := by decide +kernel
theorem own_dadd1_40 : decode prog_17_method_2_code 40 = .ok (.iload_n 2, 1) := by decide +kernel
theorem own_dadd1_41 : decode prog_17_method_2_code 41 = .ok (.aload_n 1, 1) := by decide +kernel
theorem own_dadd1_42 : decode prog_17_method_2_code 42 = .ok (.arraylength, 1) := by decide +kernel
theorem own_dadd1_43 : decode prog_17_method_2_code 43 = .ok (.iadd, 1) := by decide +kernel
theorem own_dadd1_44 : decode prog_17_method_2_code 44 = .ok (.iastore, 1) := by decide +kernel
theorem own_dadd1_45 : decode prog_17_method_2_code 45 = .ok (.return_, 1) := by decide +kernel
theorem own_efadd1 (m : MethodId) (o0 : Addr) (o1 : Addr) : entryFrame m #[(.ref o0), (.ref o1)] 3 = mkF m 0 #[.val (.ref o0), .val (.ref o1), .unset] [] := by first | (simp [entryFrame, mkF, argsToLocals, Value.category]; done) | rfl
set_option maxRecDepth 65536 in
set_option maxHeartbeats 40000000 in
theorem own_madd1 (l : Launch) (Z : State) (a0 : Array Value) (hw : ∀ d ∈ tables_1, d.before a0 Z = true) (ws : List Jvm.Cond) (o0 : Addr) (o1 : Addr) (v1 : Int32) (xs : List Int32) (pre : List Int32) (r : Nat) (w_o0__exams : Addr) (w_o0__starts : Addr) (h0 : Heap) (n0 : Nat) (Z0 : n0 ≤ h0.size) (E_o0 : Exa Z h0 o0 "com/example/ruangwaktu/ruangwaktu/exam/Enrolments") (F_o0__exams : Fld Z h0 o0 "com/example/ruangwaktu/ruangwaktu/exam/Enrolments" "_exams" "[I" (.ref w_o0__exams)) (F_o0__starts : Fld Z h0 o0 "com/example/ruangwaktu/ruangwaktu/exam/Enrolments" "_starts" "[I" (.ref w_o0__starts)) (F_o0__students : Fld Z h0 o0 "com/example/ruangwaktu/ruangwaktu/exam/Enrolments" "_students" "I" (.int (1 : Int32))) (A_o1 : own_IA Z h0 o1 xs) (A_w_o0__exams : own_IA Z h0 w_o0__exams (pre ++ List.replicate r (0 : Int32))) (A_w_o0__starts : own_IA Z h0 w_o0__starts [(0 : Int32), v1, (0 : Int32), (0 : Int32)]) (low_o0 : n0 ≤ o0) (low_w_o0__exams : n0 ≤ w_o0__exams) (low_w_o0__starts : n0 ≤ w_o0__starts) (ne_o0_w_o0__exams : o0 ≠ w_o0__exams) (ne_o0_w_o0__starts : o0 ≠ w_o0__starts) (ne_w_o0__exams_w_o0__starts : w_o0__exams ≠ w_o0__starts) (ne_o1_o0 : o1 ≠ o0) (ne_o1_w_o0__exams : o1 ≠ w_o0__exams) (ne_o1_w_o0__starts : o1 ≠ w_o0__starts) (hv : v1.toInt = (pre.length : Int)) (hr : xs.length ≤ r) :
    own_Met l Z (⟨"com/example/ruangwaktu/ruangwaktu/exam/Enrolments", "add", "([I)V"⟩ : MethodName) prog_17_method_2_code 3 none ws ({ frames := 1, cells := 0, slots := 0, locals := 40 } : Room) #[(.ref o0), (.ref o1)] h0 (fun (v : Option Value) (h : Heap) (L : List Loc) => v = none ∧ Fr n0 L ∧ Keep h0 h [o0, w_o0__exams, w_o0__starts] ∧ Exa Z h o0 "com/example/ruangwaktu/ruangwaktu/exam/Enrolments" ∧ Fld Z h o0 "com/example/ruangwaktu/ruangwaktu/exam/Enrolments" "_exams" "[I" (.ref w_o0__exams) ∧ Fld Z h o0 "com/example/ruangwaktu/ruangwaktu/exam/Enrolments" "_starts" "[I" (.ref w_o0__starts) ∧ Fld Z h o0 "com/example/ruangwaktu/ruangwaktu/exam/Enrolments" "_students" "I" (.int (2 : Int32)) ∧ own_IA Z h w_o0__exams ((pre ++ xs) ++ List.replicate (r - xs.length) (0 : Int32)) ∧ own_IA Z h w_o0__starts [(0 : Int32), v1, (v1 + (Int32.ofNat xs.length)), (0 : Int32)]) := by
  refine own_enter (plainFor_of_name own_pn_com_example_ruangwaktu_ruangwaktu_exam_Enrolments) ?_
  intro p e s m below meth c s₁ P hx hby hml hrt hlk hown hnm hZ X0 e0 hP
  have N0 := Fr.nil n0
  have K0 := Keep.refl h0 [o0, w_o0__exams, w_o0__starts]
  have hml' : c.maxLocals = 3 := hml
  refine own_cast (own_efadd1 m o0 o1) ?_
  have hxl : (Int32.ofNat xs.length).toInt = (xs.length : Int) := own_ofn A_o1.len
  show own_End p e below P (s₁.setTop (mkF m 0 #[.val (.ref o0), .val (.ref o1), .unset] []))
  refine own_st (fun _ => XS.aloadN X0.here hx rfl (hb hby own_dadd1_0) rfl rfl) ?_
  show own_End p e below P (s₁.setTop (mkF m 1 #[.val (.ref o0), .val (.ref o1), .unset] [(.ref o0)]))
  obtain ⟨T1, X1, e1, st1⟩ := getF X0 hx hZ hown (host := "") (Or.inl (hw _ (List.mem_of_getElem? (i := 16) rfl))) Via.refl e0 F_o0__starts (g := (mkF m 1 #[.val (.ref o0), .val (.ref o1), .unset] [(.ref o0)])) rfl rfl (hb hby own_dadd1_1)
  refine own_st (fun _ => st1 _) ?_
  show own_End p e below P (T1.setTop (mkF m 4 #[.val (.ref o0), .val (.ref o1), .unset] [(.ref w_o0__starts)]))
  refine own_st (fun _ => XS.aloadN X1.here hx rfl (hb hby own_dadd1_4) rfl rfl) ?_
  show own_End p e below P (T1.setTop (mkF m 5 #[.val (.ref o0), .val (.ref o1), .unset] [(.ref o0), (.ref w_o0__starts)]))
  obtain ⟨T2, X2, e2, st2⟩ := getF X1 hx hZ hown (host := "") (Or.inl (hw _ (List.mem_of_getElem? (i := 23) rfl))) Via.refl e1 F_o0__students (g := (mkF m 5 #[.val (.ref o0), .val (.ref o1), .unset] [(.ref o0), (.ref w_o0__starts)])) rfl rfl (hb hby own_dadd1_5)
  refine own_st (fun _ => st2 _) ?_
  show own_End p e below P (T2.setTop (mkF m 8 #[.val (.ref o0), .val (.ref o1), .unset] [(.int (1 : Int32)), (.ref w_o0__starts)]))
  refine own_iaload X2 hx hZ e2 A_w_o0__starts (j := (1 : Int32)) (v := v1) (i := 1) (by decide) rfl (g := (mkF m 8 #[.val (.ref o0), .val (.ref o1), .unset] [(.int (1 : Int32)), (.ref w_o0__starts)])) rfl rfl (hb hby own_dadd1_8) ?_
  show own_End p e below P (T2.setTop (mkF m 9 #[.val (.ref o0), .val (.ref o1), .unset] [(.int v1)]))
  refine own_st (fun _ => XS.istoreN X2.here hx rfl (hb hby own_dadd1_9) rfl (l' := #[.val (.ref o0), .val (.ref o1), .val (.int v1)]) rfl) ?_
  show own_End p e below P (T2.setTop (mkF m 10 #[.val (.ref o0), .val (.ref o1), .val (.int v1)] []))
  refine own_st (fun _ => XS.aloadN X2.here hx rfl (hb hby own_dadd1_10) rfl rfl) ?_
  show own_End p e below P (T2.setTop (mkF m 11 #[.val (.ref o0), .val (.ref o1), .val (.int v1)] [(.ref o1)]))
  refine own_st (fun _ => XS.iconst X2.here hx rfl (hb hby own_dadd1_11)) ?_
  show own_End p e below P (T2.setTop (mkF m 12 #[.val (.ref o0), .val (.ref o1), .val (.int v1)] [(.int (0 : Int32)), (.ref o1)]))
  refine own_st (fun _ => XS.aloadN X2.here hx rfl (hb hby own_dadd1_12) rfl rfl) ?_
  show own_End p e below P (T2.setTop (mkF m 13 #[.val (.ref o0), .val (.ref o1), .val (.int v1)] [(.ref o0), (.int (0 : Int32)), (.ref o1)]))
  obtain ⟨T3, X3, e3, st3⟩ := getF X2 hx hZ hown (host := "") (Or.inl (hw _ (List.mem_of_getElem? (i := 14) rfl))) Via.refl e2 F_o0__exams (g := (mkF m 13 #[.val (.ref o0), .val (.ref o1), .val (.int v1)] [(.ref o0), (.int (0 : Int32)), (.ref o1)])) rfl rfl (hb hby own_dadd1_13)
  refine own_st (fun _ => st3 _) ?_
  show own_End p e below P (T3.setTop (mkF m 16 #[.val (.ref o0), .val (.ref o1), .val (.int v1)] [(.ref w_o0__exams), (.int (0 : Int32)), (.ref o1)]))
  refine own_st (fun _ => XS.iloadN X3.here hx rfl (hb hby own_dadd1_16) rfl) ?_
  show own_End p e below P (T3.setTop (mkF m 17 #[.val (.ref o0), .val (.ref o1), .val (.int v1)] [(.int v1), (.ref w_o0__exams), (.int (0 : Int32)), (.ref o1)]))
  refine own_st (fun _ => XS.aloadN X3.here hx rfl (hb hby own_dadd1_17) rfl rfl) ?_
  show own_End p e below P (T3.setTop (mkF m 18 #[.val (.ref o0), .val (.ref o1), .val (.int v1)] [(.ref o1), (.int v1), (.ref w_o0__exams), (.int (0 : Int32)), (.ref o1)]))
  refine own_alen X3 hx hZ e3 A_o1 (g := (mkF m 18 #[.val (.ref o0), .val (.ref o1), .val (.int v1)] [(.ref o1), (.int v1), (.ref w_o0__exams), (.int (0 : Int32)), (.ref o1)])) rfl rfl (hb hby own_dadd1_18) ?_
  show own_End p e below P (T3.setTop (mkF m 19 #[.val (.ref o0), .val (.ref o1), .val (.int v1)] [(.int (Int32.ofNat xs.length)), (.int v1), (.ref w_o0__exams), (.int (0 : Int32)), (.ref o1)]))
  refine own_copy X3 hx hZ hown (hw _ (List.mem_of_getElem? (i := 25) rfl)) (hw _ (List.mem_of_getElem? (i := 28) rfl)) (hw _ (List.mem_of_getElem? (i := 26) rfl)) (hw _ (List.mem_of_getElem? (i := 27) rfl)) e3 A_o1 A_w_o0__exams (sp := 0) (dp := pre.length) (n := xs.length) own_z32 hv hxl (by omega) (by simp; omega) N0 low_w_o0__exams (g := (mkF m 19 #[.val (.ref o0), .val (.ref o1), .val (.int v1)] [(.int (Int32.ofNat xs.length)), (.int v1), (.ref w_o0__exams), (.int (0 : Int32)), (.ref o1)])) rfl (by rw [hml']; rfl) rfl (hb hby own_dadd1_19) (by decide) 0 (by show 2 * 0 + _ ≤ _; exact Nat.le_of_eq rfl) (by decide) (fun T4 h4 L4 X4 e4 N4 Kq4 B4 => ?_)
  have A4 : own_IA Z h4 w_o0__exams ((pre ++ xs) ++ List.replicate (r - xs.length) (0 : Int32)) := by have q := B4; rwa [own_cpy pre xs r hr] at q
  have K4 := Keep.trans K0 Kq4 (allS (Or.inl (List.mem_of_getElem? (i := 1) rfl)) all0)
  show own_End p e below P (T4.setTop (mkF m 22 #[.val (.ref o0), .val (.ref o1), .val (.int v1)] []))
  refine own_st (fun _ => XS.aloadN X4.here hx rfl (hb hby own_dadd1_22) rfl rfl) ?_
  show own_End p e below P (T4.setTop (mkF m 23 #[.val (.ref o0), .val (.ref o1), .val (.int v1)] [(.ref o0)]))
  refine own_st (fun _ => XS.dup X4.here hx rfl (hb hby own_dadd1_23) rfl rfl) ?_
  show own_End p e below P (T4.setTop (mkF m 24 #[.val (.ref o0), .val (.ref o1), .val (.int v1)] [(.ref o0), (.ref o0)]))
  have G5 := (F_o0__students.keep Kq4 (ninS ne_o0_w_o0__exams nin0))
  obtain ⟨T6, X6, e6, st6⟩ := getF X4 hx hZ hown (host := "") (Or.inl (hw _ (List.mem_of_getElem? (i := 23) rfl))) Via.refl e4 G5 (g := (mkF m 24 #[.val (.ref o0), .val (.ref o1), .val (.int v1)] [(.ref o0), (.ref o0)])) rfl rfl (hb hby own_dadd1_24)
  refine own_st (fun _ => st6 _) ?_
  show own_End p e below P (T6.setTop (mkF m 27 #[.val (.ref o0), .val (.ref o1), .val (.int v1)] [(.int (1 : Int32)), (.ref o0)]))
  refine own_st (fun _ => XS.iconst X6.here hx rfl (hb hby own_dadd1_27)) ?_
  show own_End p e below P (T6.setTop (mkF m 28 #[.val (.ref o0), .val (.ref o1), .val (.int v1)] [(.int (1 : Int32)), (.int (1 : Int32)), (.ref o0)]))
  refine own_st (fun _ => XS.iadd X6.here hx rfl (hb hby own_dadd1_28) rfl) ?_
  show own_End p e below P (T6.setTop (mkF m 29 #[.val (.ref o0), .val (.ref o1), .val (.int v1)] [(.int (2 : Int32)), (.ref o0)]))
  have G7 := (E_o0.keep Kq4)
  obtain ⟨T8, h8, X8, e8, W8, st8⟩ := putF X6 hx hZ hown (host := "") (Or.inl (hw _ (List.mem_of_getElem? (i := 23) rfl))) Via.refl e6 G5 G7 (Or.inl (hw _ (List.mem_of_getElem? (i := 24) rfl))) (hw _ (List.mem_of_getElem? (i := 6) rfl)) (ty := .int) (by decide) rfl rfl (g := (mkF m 29 #[.val (.ref o0), .val (.ref o1), .val (.int v1)] [(.int (2 : Int32)), (.ref o0)])) rfl rfl (hb hby own_dadd1_29)
  have N8 := Fr.snoc X8 N4 low_o0
  have K8 := Keep.wr K4 W8 (Or.inl (List.mem_of_getElem? (i := 0) rfl))
  have F8 := G5.same W8
  refine own_st (fun _ => st8 _) ?_
  show own_End p e below P (T8.setTop (mkF m 32 #[.val (.ref o0), .val (.ref o1), .val (.int v1)] []))
  refine own_st (fun _ => XS.aloadN X8.here hx rfl (hb hby own_dadd1_32) rfl rfl) ?_
  show own_End p e below P (T8.setTop (mkF m 33 #[.val (.ref o0), .val (.ref o1), .val (.int v1)] [(.ref o0)]))
  have G9 := ((F_o0__starts.keep Kq4 (ninS ne_o0_w_o0__exams nin0)).other W8 (Or.inr (slot_ne (Or.inr (hw _ (List.mem_of_getElem? (i := 17) rfl))) (Or.inl (hw _ (List.mem_of_getElem? (i := 24) rfl))) (by decide) (t := (.array .int)) (t' := .int) (by decide) (by decide))))
  obtain ⟨T10, X10, e10, st10⟩ := getF X8 hx hZ hown (host := "") (Or.inl (hw _ (List.mem_of_getElem? (i := 16) rfl))) Via.refl e8 G9 (g := (mkF m 33 #[.val (.ref o0), .val (.ref o1), .val (.int v1)] [(.ref o0)])) rfl rfl (hb hby own_dadd1_33)
  refine own_st (fun _ => st10 _) ?_
  show own_End p e below P (T10.setTop (mkF m 36 #[.val (.ref o0), .val (.ref o1), .val (.int v1)] [(.ref w_o0__starts)]))
  refine own_st (fun _ => XS.aloadN X10.here hx rfl (hb hby own_dadd1_36) rfl rfl) ?_
  show own_End p e below P (T10.setTop (mkF m 37 #[.val (.ref o0), .val (.ref o1), .val (.int v1)] [(.ref o0), (.ref w_o0__starts)]))
  obtain ⟨T11, X11, e11, st11⟩ := getF X10 hx hZ hown (host := "") (Or.inl (hw _ (List.mem_of_getElem? (i := 23) rfl))) Via.refl e10 F8 (g := (mkF m 37 #[.val (.ref o0), .val (.ref o1), .val (.int v1)] [(.ref o0), (.ref w_o0__starts)])) rfl rfl (hb hby own_dadd1_37)
  refine own_st (fun _ => st11 _) ?_
  show own_End p e below P (T11.setTop (mkF m 40 #[.val (.ref o0), .val (.ref o1), .val (.int v1)] [(.int (2 : Int32)), (.ref w_o0__starts)]))
  refine own_st (fun _ => XS.iloadN X11.here hx rfl (hb hby own_dadd1_40) rfl) ?_
  show own_End p e below P (T11.setTop (mkF m 41 #[.val (.ref o0), .val (.ref o1), .val (.int v1)] [(.int v1), (.int (2 : Int32)), (.ref w_o0__starts)]))
  refine own_st (fun _ => XS.aloadN X11.here hx rfl (hb hby own_dadd1_41) rfl rfl) ?_
  show own_End p e below P (T11.setTop (mkF m 42 #[.val (.ref o0), .val (.ref o1), .val (.int v1)] [(.ref o1), (.int v1), (.int (2 : Int32)), (.ref w_o0__starts)]))
  have G12 := ((A_o1.keep Kq4 (ninS ne_o1_w_o0__exams nin0)).other W8 ne_o1_o0)
  refine own_alen X11 hx hZ e11 G12 (g := (mkF m 42 #[.val (.ref o0), .val (.ref o1), .val (.int v1)] [(.ref o1), (.int v1), (.int (2 : Int32)), (.ref w_o0__starts)])) rfl rfl (hb hby own_dadd1_42) ?_
  show own_End p e below P (T11.setTop (mkF m 43 #[.val (.ref o0), .val (.ref o1), .val (.int v1)] [(.int (Int32.ofNat xs.length)), (.int v1), (.int (2 : Int32)), (.ref w_o0__starts)]))
  refine own_st (fun _ => XS.iadd X11.here hx rfl (hb hby own_dadd1_43) rfl) ?_
  show own_End p e below P (T11.setTop (mkF m 44 #[.val (.ref o0), .val (.ref o1), .val (.int v1)] [(.int (v1 + (Int32.ofNat xs.length))), (.int (2 : Int32)), (.ref w_o0__starts)]))
  have G13 := ((A_w_o0__starts.keep Kq4 (ninS (Ne.symm ne_w_o0__exams_w_o0__starts) nin0)).other W8 (Ne.symm ne_o0_w_o0__starts))
  refine own_iastore X11 hx hZ e11 G13 (j := (2 : Int32)) (v := (v1 + (Int32.ofNat xs.length))) (i := 2) (by decide) (by show (2 : Nat) < 4; decide) (g := (mkF m 44 #[.val (.ref o0), .val (.ref o1), .val (.int v1)] [(.int (v1 + (Int32.ofNat xs.length))), (.int (2 : Int32)), (.ref w_o0__starts)])) rfl rfl (hb hby own_dadd1_44) (fun T14 h14 X14 e14 W14 B14 => ?_)
  have A14 : own_IA Z h14 w_o0__starts [(0 : Int32), v1, (v1 + (Int32.ofNat xs.length)), (0 : Int32)] := B14
  have N14 := Fr.snoc X14 N8 low_w_o0__starts
  have K14 := Keep.wr K8 W14 (Or.inl (List.mem_of_getElem? (i := 2) rfl))
  show own_End p e below P (T14.setTop (mkF m 45 #[.val (.ref o0), .val (.ref o1), .val (.int v1)] []))
  have G15 := ((G7.wr W8).wr W14)
  have G16 := (((F_o0__exams.keep Kq4 (ninS ne_o0_w_o0__exams nin0)).other W8 (Or.inr (slot_ne (Or.inr (hw _ (List.mem_of_getElem? (i := 15) rfl))) (Or.inl (hw _ (List.mem_of_getElem? (i := 24) rfl))) (by decide) (t := (.array .int)) (t' := .int) (by decide) (by decide)))).other W14 (Or.inl ne_o0_w_o0__starts))
  have G17 := (G9.other W14 (Or.inl ne_o0_w_o0__starts))
  have G18 := (F8.other W14 (Or.inl ne_o0_w_o0__starts))
  have G19 := ((A4.other W8 (Ne.symm ne_o0_w_o0__exams)).other W14 ne_w_o0__exams_w_o0__starts)
  have hfin : ((fun (v : Option Value) (h : Heap) (L : List Loc) => v = none ∧ Fr n0 L ∧ Keep h0 h [o0, w_o0__exams, w_o0__starts] ∧ Exa Z h o0 "com/example/ruangwaktu/ruangwaktu/exam/Enrolments" ∧ Fld Z h o0 "com/example/ruangwaktu/ruangwaktu/exam/Enrolments" "_exams" "[I" (.ref w_o0__exams) ∧ Fld Z h o0 "com/example/ruangwaktu/ruangwaktu/exam/Enrolments" "_starts" "[I" (.ref w_o0__starts) ∧ Fld Z h o0 "com/example/ruangwaktu/ruangwaktu/exam/Enrolments" "_students" "I" (.int (2 : Int32)) ∧ own_IA Z h w_o0__exams ((pre ++ xs) ++ List.replicate (r - xs.length) (0 : Int32)) ∧ own_IA Z h w_o0__starts [(0 : Int32), v1, (v1 + (Int32.ofNat xs.length)), (0 : Int32)])) none h14 _ := ⟨rfl, N14, K14, G15, G16, G17, G18, G19, A14⟩
  refine own_retV X14 hx hlk hP hrt (hb hby own_dadd1_45) (by decide) (by decide) ?_
  rw [e14]; exact hfin
theorem own_dadd2_0 : decode prog_17_method_2_code 0 = .ok (.aload_n 0, 1) := by decide +kernel
theorem own_dadd2_1 : decode prog_17_method_2_code 1 = .ok (.getfield 13, 3) := by decide +kernel
theorem own_dadd2_4 : decode prog_17_method_2_code 4 = .ok (.aload_n 0, 1) := by decide +kernel
theorem own_dadd2_5 : decode prog_17_method_2_code 5 = .ok (.getfield 16, 3) := by decide +kernel
theorem own_dadd2_8 : decode prog_17_method_2_code 8 = .ok (.iaload, 1) := by decide +kernel
theorem own_dadd2_9 : decode prog_17_method_2_code 9 = .ok (.istore_n 2, 1) := by decide +kernel
theorem own_dadd2_10 : decode prog_17_method_2_code 10 = .ok (.aload_n 1, 1) := by decide +kernel
theorem own_dadd2_11 : decode prog_17_method_2_code 11 = .ok (.iconst 0, 1) := by decide +kernel
theorem own_dadd2_12 : decode prog_17_method_2_code 12 = .ok (.aload_n 0, 1) := by decide +kernel
theorem own_dadd2_13 : decode prog_17_method_2_code 13 = .ok (.getfield 7, 3) := by decide +kernel
theorem own_dadd2_16 : decode prog_17_method_2_code 16 = .ok (.iload_n 2, 1) := by decide +kernel
theorem own_dadd2_17 : decode prog_17_method_2_code 17 = .ok (.aload_n 1, 1) := by decide +kernel
theorem own_dadd2_18 : decode prog_17_method_2_code 18 = .ok (.arraylength, 1) := by decide +kernel
theorem own_dadd2_19 : decode prog_17_method_2_code 19 = .ok (.invokestatic 20, 3) := by decide +kernel
theorem own_dadd2_22 : decode prog_17_method_2_code 22 = .ok (.aload_n 0, 1) := by decide +kernel
theorem own_dadd2_23 : decode prog_17_method_2_code 23 = .ok (.dup, 1) := by decide +kernel
theorem own_dadd2_24 : decode prog_17_method_2_code 24 = .ok (.getfield 16, 3) := by decide +kernel
theorem own_dadd2_27 : decode prog_17_method_2_code 27 = .ok (.iconst 1, 1) := by decide +kernel
theorem own_dadd2_28 : decode prog_17_method_2_code 28 = .ok (.iadd, 1) := by decide +kernel
theorem own_dadd2_29 : decode prog_17_method_2_code 29 = .ok (.putfield 16, 3) := by decide +kernel
theorem own_dadd2_32 : decode prog_17_method_2_code 32 = .ok (.aload_n 0, 1) := by decide +kernel
theorem own_dadd2_33 : decode prog_17_method_2_code 33 = .ok (.getfield 13, 3) := by decide +kernel
theorem own_dadd2_36 : decode prog_17_method_2_code 36 = .ok (.aload_n 0, 1) := by decide +kernel
theorem own_dadd2_37 : decode prog_17_method_2_code 37 = .ok (.getfield 16, 3) := by decide +kernel
theorem own_dadd2_40 : decode prog_17_method_2_code 40 = .ok (.iload_n 2, 1) := by decide +kernel
theorem own_dadd2_41 : decode prog_17_method_2_code 41 = .ok (.aload_n 1, 1) := by decide +kernel
theorem own_dadd2_42 : decode prog_17_method_2_code 42 = .ok (.arraylength, 1) := by decide +kernel
theorem own_dadd2_43 : decode prog_17_method_2_code 43 = .ok (.iadd, 1) := by decide +kernel
theorem own_dadd2_44 : decode prog_17_method_2_code 44 = .ok (.iastore, 1) := by decide +kernel
theorem own_dadd2_45 : decode prog_17_method_2_code 45 = .ok (.return_, 1) := by decide +kernel
theorem own_efadd2 (m : MethodId) (o0 : Addr) (o1 : Addr) : entryFrame m #[(.ref o0), (.ref o1)] 3 = mkF m 0 #[.val (.ref o0), .val (.ref o1), .unset] [] := by first | (simp [entryFrame, mkF, argsToLocals, Value.category]; done) | rfl
set_option maxRecDepth 65536 in
set_option maxHeartbeats 40000000 in
theorem own_madd2 (l : Launch) (Z : State) (a0 : Array Value) (hw : ∀ d ∈ tables_1, d.before a0 Z = true) (ws : List Jvm.Cond) (o0 : Addr) (o1 : Addr) (v1 : Int32) (v2 : Int32) (xs : List Int32) (pre : List Int32) (r : Nat) (w_o0__exams : Addr) (w_o0__starts : Addr) (h0 : Heap) (n0 : Nat) (Z0 : n0 ≤ h0.size) (E_o0 : Exa Z h0 o0 "com/example/ruangwaktu/ruangwaktu/exam/Enrolments") (F_o0__exams : Fld Z h0 o0 "com/example/ruangwaktu/ruangwaktu/exam/Enrolments" "_exams" "[I" (.ref w_o0__exams)) (F_o0__starts : Fld Z h0 o0 "com/example/ruangwaktu/ruangwaktu/exam/Enrolments" "_starts" "[I" (.ref w_o0__starts)) (F_o0__students : Fld Z h0 o0 "com/example/ruangwaktu/ruangwaktu/exam/Enrolments" "_students" "I" (.int (2 : Int32))) (A_o1 : own_IA Z h0 o1 xs) (A_w_o0__exams : own_IA Z h0 w_o0__exams (pre ++ List.replicate r (0 : Int32))) (A_w_o0__starts : own_IA Z h0 w_o0__starts [(0 : Int32), v1, v2, (0 : Int32)]) (low_o0 : n0 ≤ o0) (low_w_o0__exams : n0 ≤ w_o0__exams) (low_w_o0__starts : n0 ≤ w_o0__starts) (ne_o0_w_o0__exams : o0 ≠ w_o0__exams) (ne_o0_w_o0__starts : o0 ≠ w_o0__starts) (ne_w_o0__exams_w_o0__starts : w_o0__exams ≠ w_o0__starts) (ne_o1_o0 : o1 ≠ o0) (ne_o1_w_o0__exams : o1 ≠ w_o0__exams) (ne_o1_w_o0__starts : o1 ≠ w_o0__starts) (hv : v2.toInt = (pre.length : Int)) (hr : xs.length ≤ r) :
    own_Met l Z (⟨"com/example/ruangwaktu/ruangwaktu/exam/Enrolments", "add", "([I)V"⟩ : MethodName) prog_17_method_2_code 3 none ws ({ frames := 1, cells := 0, slots := 0, locals := 40 } : Room) #[(.ref o0), (.ref o1)] h0 (fun (v : Option Value) (h : Heap) (L : List Loc) => v = none ∧ Fr n0 L ∧ Keep h0 h [o0, w_o0__exams, w_o0__starts] ∧ Exa Z h o0 "com/example/ruangwaktu/ruangwaktu/exam/Enrolments" ∧ Fld Z h o0 "com/example/ruangwaktu/ruangwaktu/exam/Enrolments" "_exams" "[I" (.ref w_o0__exams) ∧ Fld Z h o0 "com/example/ruangwaktu/ruangwaktu/exam/Enrolments" "_starts" "[I" (.ref w_o0__starts) ∧ Fld Z h o0 "com/example/ruangwaktu/ruangwaktu/exam/Enrolments" "_students" "I" (.int (3 : Int32)) ∧ own_IA Z h w_o0__exams ((pre ++ xs) ++ List.replicate (r - xs.length) (0 : Int32)) ∧ own_IA Z h w_o0__starts [(0 : Int32), v1, v2, (v2 + (Int32.ofNat xs.length))]) := by
  refine own_enter (plainFor_of_name own_pn_com_example_ruangwaktu_ruangwaktu_exam_Enrolments) ?_
  intro p e s m below meth c s₁ P hx hby hml hrt hlk hown hnm hZ X0 e0 hP
  have N0 := Fr.nil n0
  have K0 := Keep.refl h0 [o0, w_o0__exams, w_o0__starts]
  have hml' : c.maxLocals = 3 := hml
  refine own_cast (own_efadd2 m o0 o1) ?_
  have hxl : (Int32.ofNat xs.length).toInt = (xs.length : Int) := own_ofn A_o1.len
  show own_End p e below P (s₁.setTop (mkF m 0 #[.val (.ref o0), .val (.ref o1), .unset] []))
  refine own_st (fun _ => XS.aloadN X0.here hx rfl (hb hby own_dadd2_0) rfl rfl) ?_
  show own_End p e below P (s₁.setTop (mkF m 1 #[.val (.ref o0), .val (.ref o1), .unset] [(.ref o0)]))
  obtain ⟨T1, X1, e1, st1⟩ := getF X0 hx hZ hown (host := "") (Or.inl (hw _ (List.mem_of_getElem? (i := 16) rfl))) Via.refl e0 F_o0__starts (g := (mkF m 1 #[.val (.ref o0), .val (.ref o1), .unset] [(.ref o0)])) rfl rfl (hb hby own_dadd2_1)
  refine own_st (fun _ => st1 _) ?_
  show own_End p e below P (T1.setTop (mkF m 4 #[.val (.ref o0), .val (.ref o1), .unset] [(.ref w_o0__starts)]))
  refine own_st (fun _ => XS.aloadN X1.here hx rfl (hb hby own_dadd2_4) rfl rfl) ?_
  show own_End p e below P (T1.setTop (mkF m 5 #[.val (.ref o0), .val (.ref o1), .unset] [(.ref o0), (.ref w_o0__starts)]))
  obtain ⟨T2, X2, e2, st2⟩ := getF X1 hx hZ hown (host := "") (Or.inl (hw _ (List.mem_of_getElem? (i := 23) rfl))) Via.refl e1 F_o0__students (g := (mkF m 5 #[.val (.ref o0), .val (.ref o1), .unset] [(.ref o0), (.ref w_o0__starts)])) rfl rfl (hb hby own_dadd2_5)
  refine own_st (fun _ => st2 _) ?_
  show own_End p e below P (T2.setTop (mkF m 8 #[.val (.ref o0), .val (.ref o1), .unset] [(.int (2 : Int32)), (.ref w_o0__starts)]))
  refine own_iaload X2 hx hZ e2 A_w_o0__starts (j := (2 : Int32)) (v := v2) (i := 2) (by decide) rfl (g := (mkF m 8 #[.val (.ref o0), .val (.ref o1), .unset] [(.int (2 : Int32)), (.ref w_o0__starts)])) rfl rfl (hb hby own_dadd2_8) ?_
  show own_End p e below P (T2.setTop (mkF m 9 #[.val (.ref o0), .val (.ref o1), .unset] [(.int v2)]))
  refine own_st (fun _ => XS.istoreN X2.here hx rfl (hb hby own_dadd2_9) rfl (l' := #[.val (.ref o0), .val (.ref o1), .val (.int v2)]) rfl) ?_
  show own_End p e below P (T2.setTop (mkF m 10 #[.val (.ref o0), .val (.ref o1), .val (.int v2)] []))
  refine own_st (fun _ => XS.aloadN X2.here hx rfl (hb hby own_dadd2_10) rfl rfl) ?_
  show own_End p e below P (T2.setTop (mkF m 11 #[.val (.ref o0), .val (.ref o1), .val (.int v2)] [(.ref o1)]))
  refine own_st (fun _ => XS.iconst X2.here hx rfl (hb hby own_dadd2_11)) ?_
  show own_End p e below P (T2.setTop (mkF m 12 #[.val (.ref o0), .val (.ref o1), .val (.int v2)] [(.int (0 : Int32)), (.ref o1)]))
  refine own_st (fun _ => XS.aloadN X2.here hx rfl (hb hby own_dadd2_12) rfl rfl) ?_
  show own_End p e below P (T2.setTop (mkF m 13 #[.val (.ref o0), .val (.ref o1), .val (.int v2)] [(.ref o0), (.int (0 : Int32)), (.ref o1)]))
  obtain ⟨T3, X3, e3, st3⟩ := getF X2 hx hZ hown (host := "") (Or.inl (hw _ (List.mem_of_getElem? (i := 14) rfl))) Via.refl e2 F_o0__exams (g := (mkF m 13 #[.val (.ref o0), .val (.ref o1), .val (.int v2)] [(.ref o0), (.int (0 : Int32)), (.ref o1)])) rfl rfl (hb hby own_dadd2_13)
  refine own_st (fun _ => st3 _) ?_
  show own_End p e below P (T3.setTop (mkF m 16 #[.val (.ref o0), .val (.ref o1), .val (.int v2)] [(.ref w_o0__exams), (.int (0 : Int32)), (.ref o1)]))
  refine own_st (fun _ => XS.iloadN X3.here hx rfl (hb hby own_dadd2_16) rfl) ?_
  show own_End p e below P (T3.setTop (mkF m 17 #[.val (.ref o0), .val (.ref o1), .val (.int v2)] [(.int v2), (.ref w_o0__exams), (.int (0 : Int32)), (.ref o1)]))
  refine own_st (fun _ => XS.aloadN X3.here hx rfl (hb hby own_dadd2_17) rfl rfl) ?_
  show own_End p e below P (T3.setTop (mkF m 18 #[.val (.ref o0), .val (.ref o1), .val (.int v2)] [(.ref o1), (.int v2), (.ref w_o0__exams), (.int (0 : Int32)), (.ref o1)]))
  refine own_alen X3 hx hZ e3 A_o1 (g := (mkF m 18 #[.val (.ref o0), .val (.ref o1), .val (.int v2)] [(.ref o1), (.int v2), (.ref w_o0__exams), (.int (0 : Int32)), (.ref o1)])) rfl rfl (hb hby own_dadd2_18) ?_
  show own_End p e below P (T3.setTop (mkF m 19 #[.val (.ref o0), .val (.ref o1), .val (.int v2)] [(.int (Int32.ofNat xs.length)), (.int v2), (.ref w_o0__exams), (.int (0 : Int32)), (.ref o1)]))
  refine own_copy X3 hx hZ hown (hw _ (List.mem_of_getElem? (i := 25) rfl)) (hw _ (List.mem_of_getElem? (i := 28) rfl)) (hw _ (List.mem_of_getElem? (i := 26) rfl)) (hw _ (List.mem_of_getElem? (i := 27) rfl)) e3 A_o1 A_w_o0__exams (sp := 0) (dp := pre.length) (n := xs.length) own_z32 hv hxl (by omega) (by simp; omega) N0 low_w_o0__exams (g := (mkF m 19 #[.val (.ref o0), .val (.ref o1), .val (.int v2)] [(.int (Int32.ofNat xs.length)), (.int v2), (.ref w_o0__exams), (.int (0 : Int32)), (.ref o1)])) rfl (by rw [hml']; rfl) rfl (hb hby own_dadd2_19) (by decide) 0 (by show 2 * 0 + _ ≤ _; exact Nat.le_of_eq rfl) (by decide) (fun T4 h4 L4 X4 e4 N4 Kq4 B4 => ?_)
  have A4 : own_IA Z h4 w_o0__exams ((pre ++ xs) ++ List.replicate (r - xs.length) (0 : Int32)) := by have q := B4; rwa [own_cpy pre xs r hr] at q
  have K4 := Keep.trans K0 Kq4 (allS (Or.inl (List.mem_of_getElem? (i := 1) rfl)) all0)
  show own_End p e below P (T4.setTop (mkF m 22 #[.val (.ref o0), .val (.ref o1), .val (.int v2)] []))
  refine own_st (fun _ => XS.aloadN X4.here hx rfl (hb hby own_dadd2_22) rfl rfl) ?_
  show own_End p e below P (T4.setTop (mkF m 23 #[.val (.ref o0), .val (.ref o1), .val (.int v2)] [(.ref o0)]))
  refine own_st (fun _ => XS.dup X4.here hx rfl (hb hby own_dadd2_23) rfl rfl) ?_
  show own_End p e below P (T4.setTop (mkF m 24 #[.val (.ref o0), .val (.ref o1), .val (.int v2)] [(.ref o0), (.ref o0)]))
  have G5 := (F_o0__students.keep Kq4 (ninS ne_o0_w_o0__exams nin0))
  obtain ⟨T6, X6, e6, st6⟩ := getF X4 hx hZ hown (host := "") (Or.inl (hw _ (List.mem_of_getElem? (i := 23) rfl))) Via.refl e4 G5 (g := (mkF m 24 #[.val (.ref o0), .val (.ref o1), .val (.int v2)] [(.ref o0), (.ref o0)])) rfl rfl (hb hby own_dadd2_24)
  refine own_st (fun _ => st6 _) ?_
  show own_End p e below P (T6.setTop (mkF m 27 #[.val (.ref o0), .val (.ref o1), .val (.int v2)] [(.int (2 : Int32)), (.ref o0)]))
  refine own_st (fun _ => XS.iconst X6.here hx rfl (hb hby own_dadd2_27)) ?_
  show own_End p e below P (T6.setTop (mkF m 28 #[.val (.ref o0), .val (.ref o1), .val (.int v2)] [(.int (1 : Int32)), (.int (2 : Int32)), (.ref o0)]))
  refine own_st (fun _ => XS.iadd X6.here hx rfl (hb hby own_dadd2_28) rfl) ?_
  show own_End p e below P (T6.setTop (mkF m 29 #[.val (.ref o0), .val (.ref o1), .val (.int v2)] [(.int (3 : Int32)), (.ref o0)]))
  have G7 := (E_o0.keep Kq4)
  obtain ⟨T8, h8, X8, e8, W8, st8⟩ := putF X6 hx hZ hown (host := "") (Or.inl (hw _ (List.mem_of_getElem? (i := 23) rfl))) Via.refl e6 G5 G7 (Or.inl (hw _ (List.mem_of_getElem? (i := 24) rfl))) (hw _ (List.mem_of_getElem? (i := 6) rfl)) (ty := .int) (by decide) rfl rfl (g := (mkF m 29 #[.val (.ref o0), .val (.ref o1), .val (.int v2)] [(.int (3 : Int32)), (.ref o0)])) rfl rfl (hb hby own_dadd2_29)
  have N8 := Fr.snoc X8 N4 low_o0
  have K8 := Keep.wr K4 W8 (Or.inl (List.mem_of_getElem? (i := 0) rfl))
  have F8 := G5.same W8
  refine own_st (fun _ => st8 _) ?_
  show own_End p e below P (T8.setTop (mkF m 32 #[.val (.ref o0), .val (.ref o1), .val (.int v2)] []))
  refine own_st (fun _ => XS.aloadN X8.here hx rfl (hb hby own_dadd2_32) rfl rfl) ?_
  show own_End p e below P (T8.setTop (mkF m 33 #[.val (.ref o0), .val (.ref o1), .val (.int v2)] [(.ref o0)]))
  have G9 := ((F_o0__starts.keep Kq4 (ninS ne_o0_w_o0__exams nin0)).other W8 (Or.inr (slot_ne (Or.inr (hw _ (List.mem_of_getElem? (i := 17) rfl))) (Or.inl (hw _ (List.mem_of_getElem? (i := 24) rfl))) (by decide) (t := (.array .int)) (t' := .int) (by decide) (by decide))))
  obtain ⟨T10, X10, e10, st10⟩ := getF X8 hx hZ hown (host := "") (Or.inl (hw _ (List.mem_of_getElem? (i := 16) rfl))) Via.refl e8 G9 (g := (mkF m 33 #[.val (.ref o0), .val (.ref o1), .val (.int v2)] [(.ref o0)])) rfl rfl (hb hby own_dadd2_33)
  refine own_st (fun _ => st10 _) ?_
  show own_End p e below P (T10.setTop (mkF m 36 #[.val (.ref o0), .val (.ref o1), .val (.int v2)] [(.ref w_o0__starts)]))
  refine own_st (fun _ => XS.aloadN X10.here hx rfl (hb hby own_dadd2_36) rfl rfl) ?_
  show own_End p e below P (T10.setTop (mkF m 37 #[.val (.ref o0), .val (.ref o1), .val (.int v2)] [(.ref o0), (.ref w_o0__starts)]))
  obtain ⟨T11, X11, e11, st11⟩ := getF X10 hx hZ hown (host := "") (Or.inl (hw _ (List.mem_of_getElem? (i := 23) rfl))) Via.refl e10 F8 (g := (mkF m 37 #[.val (.ref o0), .val (.ref o1), .val (.int v2)] [(.ref o0), (.ref w_o0__starts)])) rfl rfl (hb hby own_dadd2_37)
  refine own_st (fun _ => st11 _) ?_
  show own_End p e below P (T11.setTop (mkF m 40 #[.val (.ref o0), .val (.ref o1), .val (.int v2)] [(.int (3 : Int32)), (.ref w_o0__starts)]))
  refine own_st (fun _ => XS.iloadN X11.here hx rfl (hb hby own_dadd2_40) rfl) ?_
  show own_End p e below P (T11.setTop (mkF m 41 #[.val (.ref o0), .val (.ref o1), .val (.int v2)] [(.int v2), (.int (3 : Int32)), (.ref w_o0__starts)]))
  refine own_st (fun _ => XS.aloadN X11.here hx rfl (hb hby own_dadd2_41) rfl rfl) ?_
  show own_End p e below P (T11.setTop (mkF m 42 #[.val (.ref o0), .val (.ref o1), .val (.int v2)] [(.ref o1), (.int v2), (.int (3 : Int32)), (.ref w_o0__starts)]))
  have G12 := ((A_o1.keep Kq4 (ninS ne_o1_w_o0__exams nin0)).other W8 ne_o1_o0)
  refine own_alen X11 hx hZ e11 G12 (g := (mkF m 42 #[.val (.ref o0), .val (.ref o1), .val (.int v2)] [(.ref o1), (.int v2), (.int (3 : Int32)), (.ref w_o0__starts)])) rfl rfl (hb hby own_dadd2_42) ?_
  show own_End p e below P (T11.setTop (mkF m 43 #[.val (.ref o0), .val (.ref o1), .val (.int v2)] [(.int (Int32.ofNat xs.length)), (.int v2), (.int (3 : Int32)), (.ref w_o0__starts)]))
  refine own_st (fun _ => XS.iadd X11.here hx rfl (hb hby own_dadd2_43) rfl) ?_
  show own_End p e below P (T11.setTop (mkF m 44 #[.val (.ref o0), .val (.ref o1), .val (.int v2)] [(.int (v2 + (Int32.ofNat xs.length))), (.int (3 : Int32)), (.ref w_o0__starts)]))
  have G13 := ((A_w_o0__starts.keep Kq4 (ninS (Ne.symm ne_w_o0__exams_w_o0__starts) nin0)).other W8 (Ne.symm ne_o0_w_o0__starts))
  refine own_iastore X11 hx hZ e11 G13 (j := (3 : Int32)) (v := (v2 + (Int32.ofNat xs.length))) (i := 3) (by decide) (by show (3 : Nat) < 4; decide) (g := (mkF m 44 #[.val (.ref o0), .val (.ref o1), .val (.int v2)] [(.int (v2 + (Int32.ofNat xs.length))), (.int (3 : Int32)), (.ref w_o0__starts)])) rfl rfl (hb hby own_dadd2_44) (fun T14 h14 X14 e14 W14 B14 => ?_)
  have A14 : own_IA Z h14 w_o0__starts [(0 : Int32), v1, v2, (v2 + (Int32.ofNat xs.length))] := B14
  have N14 := Fr.snoc X14 N8 low_w_o0__starts
  have K14 := Keep.wr K8 W14 (Or.inl (List.mem_of_getElem? (i := 2) rfl))
  show own_End p e below P (T14.setTop (mkF m 45 #[.val (.ref o0), .val (.ref o1), .val (.int v2)] []))
  have G15 := ((G7.wr W8).wr W14)
  have G16 := (((F_o0__exams.keep Kq4 (ninS ne_o0_w_o0__exams nin0)).other W8 (Or.inr (slot_ne (Or.inr (hw _ (List.mem_of_getElem? (i := 15) rfl))) (Or.inl (hw _ (List.mem_of_getElem? (i := 24) rfl))) (by decide) (t := (.array .int)) (t' := .int) (by decide) (by decide)))).other W14 (Or.inl ne_o0_w_o0__starts))
  have G17 := (G9.other W14 (Or.inl ne_o0_w_o0__starts))
  have G18 := (F8.other W14 (Or.inl ne_o0_w_o0__starts))
  have G19 := ((A4.other W8 (Ne.symm ne_o0_w_o0__exams)).other W14 ne_w_o0__exams_w_o0__starts)
  have hfin : ((fun (v : Option Value) (h : Heap) (L : List Loc) => v = none ∧ Fr n0 L ∧ Keep h0 h [o0, w_o0__exams, w_o0__starts] ∧ Exa Z h o0 "com/example/ruangwaktu/ruangwaktu/exam/Enrolments" ∧ Fld Z h o0 "com/example/ruangwaktu/ruangwaktu/exam/Enrolments" "_exams" "[I" (.ref w_o0__exams) ∧ Fld Z h o0 "com/example/ruangwaktu/ruangwaktu/exam/Enrolments" "_starts" "[I" (.ref w_o0__starts) ∧ Fld Z h o0 "com/example/ruangwaktu/ruangwaktu/exam/Enrolments" "_students" "I" (.int (3 : Int32)) ∧ own_IA Z h w_o0__exams ((pre ++ xs) ++ List.replicate (r - xs.length) (0 : Int32)) ∧ own_IA Z h w_o0__starts [(0 : Int32), v1, v2, (v2 + (Int32.ofNat xs.length))])) none h14 _ := ⟨rfl, N14, K14, G15, G16, G17, G18, G19, A14⟩
  refine own_retV X14 hx hlk hP hrt (hb hby own_dadd2_45) (by decide) (by decide) ?_
  rw [e14]; exact hfin
theorem own_dex0_0 : decode prog_17_method_5_code 0 = .ok (.aload_n 0, 1) := by decide +kernel
theorem own_dex0_1 : decode prog_17_method_5_code 1 = .ok (.getfield 7, 3) := by decide +kernel
theorem own_dex0_4 : decode prog_17_method_5_code 4 = .ok (.aload_n 0, 1) := by decide +kernel
theorem own_dex0_5 : decode prog_17_method_5_code 5 = .ok (.getfield 13, 3) := by decide +kernel
theorem own_dex0_8 : decode prog_17_method_5_code 8 = .ok (.iload_n 1, 1) := by decide +kernel
theorem own_dex0_9 : decode prog_17_method_5_code 9 = .ok (.iaload, 1) := by decide +kernel
theorem own_dex0_10 : decode prog_17_method_5_code 10 = .ok (.aload_n 0, 1) := by decide +kernel
theorem own_dex0_11 : decode prog_17_method_5_code 11 = .ok (.getfield 13, 3) := by decide +kernel
theorem own_dex0_14 : decode prog_17_method_5_code 14 = .ok (.iload_n 1, 1) := by decide +kernel
theorem own_dex0_15 : decode prog_17_method_5_code 15 = .ok (.iconst 1, 1) := by decide +kernel
theorem own_dex0_16 : decode prog_17_method_5_code 16 = .ok (.iadd, 1) := by decide +kernel
theorem own_dex0_17 : decode prog_17_method_5_code 17 = .ok (.iaload, 1) := by decide +kernel
theorem own_dex0_18 : decode prog_17_method_5_code 18 = .ok (.invokestatic 26, 3) := by decide +kernel
theorem own_dex0_21 : decode prog_17_method_5_code 21 = .ok (.areturn, 1) := by decide +kernel
theorem own_efex0 (m : MethodId) (o0 : Addr) : entryFrame m #[(.ref o0), (.int (0 : Int32))] 2 = mkF m 0 #[.val (.ref o0), .val (.int (0 : Int32))] [] := by first | (simp [entryFrame, mkF, argsToLocals, Value.category]; done) | rfl
set_option maxRecDepth 65536 in
set_option maxHeartbeats 40000000 in
theorem own_mex0 (l : Launch) (Z : State) (a0 : Array Value) (hw : ∀ d ∈ tables_1, d.before a0 Z = true) (ws : List Jvm.Cond) (o0 : Addr) (v1 : Int32) (v2 : Int32) (v3 : Int32) (pre : List Int32) (x : List Int32) (post : List Int32) (w_o0__exams : Addr) (w_o0__starts : Addr) (h0 : Heap) (n0 : Nat) (Z0 : n0 ≤ h0.size) (F_o0__exams : Fld Z h0 o0 "com/example/ruangwaktu/ruangwaktu/exam/Enrolments" "_exams" "[I" (.ref w_o0__exams)) (F_o0__starts : Fld Z h0 o0 "com/example/ruangwaktu/ruangwaktu/exam/Enrolments" "_starts" "[I" (.ref w_o0__starts)) (A_w_o0__exams : own_IA Z h0 w_o0__exams (pre ++ (x ++ post))) (A_w_o0__starts : own_IA Z h0 w_o0__starts [(0 : Int32), v1, v2, v3]) (hp : (0 : Int32).toInt = (pre.length : Int)) (hq : v1.toInt = ((pre.length + x.length : Nat) : Int)) (h6 : (pre ++ (x ++ post)).length ≤ 6) :
    own_Met l Z (⟨"com/example/ruangwaktu/ruangwaktu/exam/Enrolments", "examsOf", "(I)[I"⟩ : MethodName) prog_17_method_5_code 2 (some (.array .int)) ws ({ frames := 3, cells := 1, slots := 6, locals := 70 } : Room) #[(.ref o0), (.int (0 : Int32))] h0 (fun (v : Option Value) (h : Heap) (L : List Loc) => ∃ (br : Addr), v = some (.ref br) ∧ Fr n0 L ∧ Keep h0 h [] ∧ h0.size ≤ br ∧ n0 ≤ br ∧ own_IA Z h br x) := by
  refine own_enter (plainFor_of_name own_pn_com_example_ruangwaktu_ruangwaktu_exam_Enrolments) ?_
  intro p e s m below meth c s₁ P hx hby hml hrt hlk hown hnm hZ X0 e0 hP
  have N0 := Fr.nil n0
  have K0 := Keep.refl h0 []
  have hml' : c.maxLocals = 2 := hml
  refine own_cast (own_efex0 m o0) ?_
  show own_End p e below P (s₁.setTop (mkF m 0 #[.val (.ref o0), .val (.int (0 : Int32))] []))
  refine own_st (fun _ => XS.aloadN X0.here hx rfl (hb hby own_dex0_0) rfl rfl) ?_
  show own_End p e below P (s₁.setTop (mkF m 1 #[.val (.ref o0), .val (.int (0 : Int32))] [(.ref o0)]))
  obtain ⟨T1, X1, e1, st1⟩ := getF X0 hx hZ hown (host := "") (Or.inl (hw _ (List.mem_of_getElem? (i := 14) rfl))) Via.refl e0 F_o0__exams (g := (mkF m 1 #[.val (.ref o0), .val (.int (0 : Int32))] [(.ref o0)])) rfl rfl (hb hby own_dex0_1)
  refine own_st (fun _ => st1 _) ?_
  show own_End p e below P (T1.setTop (mkF m 4 #[.val (.ref o0), .val (.int (0 : Int32))] [(.ref w_o0__exams)]))
  refine own_st (fun _ => XS.aloadN X1.here hx rfl (hb hby own_dex0_4) rfl rfl) ?_
  show own_End p e below P (T1.setTop (mkF m 5 #[.val (.ref o0), .val (.int (0 : Int32))] [(.ref o0), (.ref w_o0__exams)]))
  obtain ⟨T2, X2, e2, st2⟩ := getF X1 hx hZ hown (host := "") (Or.inl (hw _ (List.mem_of_getElem? (i := 16) rfl))) Via.refl e1 F_o0__starts (g := (mkF m 5 #[.val (.ref o0), .val (.int (0 : Int32))] [(.ref o0), (.ref w_o0__exams)])) rfl rfl (hb hby own_dex0_5)
  refine own_st (fun _ => st2 _) ?_
  show own_End p e below P (T2.setTop (mkF m 8 #[.val (.ref o0), .val (.int (0 : Int32))] [(.ref w_o0__starts), (.ref w_o0__exams)]))
  refine own_st (fun _ => XS.iloadN X2.here hx rfl (hb hby own_dex0_8) rfl) ?_
  show own_End p e below P (T2.setTop (mkF m 9 #[.val (.ref o0), .val (.int (0 : Int32))] [(.int (0 : Int32)), (.ref w_o0__starts), (.ref w_o0__exams)]))
  refine own_iaload X2 hx hZ e2 A_w_o0__starts (j := (0 : Int32)) (v := (0 : Int32)) (i := 0) (by decide) rfl (g := (mkF m 9 #[.val (.ref o0), .val (.int (0 : Int32))] [(.int (0 : Int32)), (.ref w_o0__starts), (.ref w_o0__exams)])) rfl rfl (hb hby own_dex0_9) ?_
  show own_End p e below P (T2.setTop (mkF m 10 #[.val (.ref o0), .val (.int (0 : Int32))] [(.int (0 : Int32)), (.ref w_o0__exams)]))
  refine own_st (fun _ => XS.aloadN X2.here hx rfl (hb hby own_dex0_10) rfl rfl) ?_
  show own_End p e below P (T2.setTop (mkF m 11 #[.val (.ref o0), .val (.int (0 : Int32))] [(.ref o0), (.int (0 : Int32)), (.ref w_o0__exams)]))
  obtain ⟨T3, X3, e3, st3⟩ := getF X2 hx hZ hown (host := "") (Or.inl (hw _ (List.mem_of_getElem? (i := 16) rfl))) Via.refl e2 F_o0__starts (g := (mkF m 11 #[.val (.ref o0), .val (.int (0 : Int32))] [(.ref o0), (.int (0 : Int32)), (.ref w_o0__exams)])) rfl rfl (hb hby own_dex0_11)
  refine own_st (fun _ => st3 _) ?_
  show own_End p e below P (T3.setTop (mkF m 14 #[.val (.ref o0), .val (.int (0 : Int32))] [(.ref w_o0__starts), (.int (0 : Int32)), (.ref w_o0__exams)]))
  refine own_st (fun _ => XS.iloadN X3.here hx rfl (hb hby own_dex0_14) rfl) ?_
  show own_End p e below P (T3.setTop (mkF m 15 #[.val (.ref o0), .val (.int (0 : Int32))] [(.int (0 : Int32)), (.ref w_o0__starts), (.int (0 : Int32)), (.ref w_o0__exams)]))
  refine own_st (fun _ => XS.iconst X3.here hx rfl (hb hby own_dex0_15)) ?_
  show own_End p e below P (T3.setTop (mkF m 16 #[.val (.ref o0), .val (.int (0 : Int32))] [(.int (1 : Int32)), (.int (0 : Int32)), (.ref w_o0__starts), (.int (0 : Int32)), (.ref w_o0__exams)]))
  refine own_st (fun _ => XS.iadd X3.here hx rfl (hb hby own_dex0_16) rfl) ?_
  show own_End p e below P (T3.setTop (mkF m 17 #[.val (.ref o0), .val (.int (0 : Int32))] [(.int (1 : Int32)), (.ref w_o0__starts), (.int (0 : Int32)), (.ref w_o0__exams)]))
  refine own_iaload X3 hx hZ e3 A_w_o0__starts (j := (1 : Int32)) (v := v1) (i := 1) (by decide) rfl (g := (mkF m 17 #[.val (.ref o0), .val (.int (0 : Int32))] [(.int (1 : Int32)), (.ref w_o0__starts), (.int (0 : Int32)), (.ref w_o0__exams)])) rfl rfl (hb hby own_dex0_17) ?_
  show own_End p e below P (T3.setTop (mkF m 18 #[.val (.ref o0), .val (.int (0 : Int32))] [(.int v1), (.int (0 : Int32)), (.ref w_o0__exams)]))
  refine own_callS X3 hx hZ (y := (⟨"java/util/Arrays", "copyOfRange", "([III)[I"⟩ : MethodName)) hown (hw _ (List.mem_of_getElem? (i := 44) rfl)) (hw _ (List.mem_of_getElem? (i := 45) rfl)) (hw _ (List.mem_of_getElem? (i := 46) rfl)) (hw _ (List.mem_of_getElem? (i := 47) rfl)) (by decide) (own_mcr l Z a0 hw [] w_o0__exams (0 : Int32) v1 pre x post h0 n0 (Nat.le_trans Z0 K0.1) A_w_o0__exams hp hq h6) 0 (by decide) (by decide) e3 (by decide) (by decide) (g := (mkF m 18 #[.val (.ref o0), .val (.int (0 : Int32))] [(.int v1), (.int (0 : Int32)), (.ref w_o0__exams)])) rfl (by rw [hml']; rfl) (argsL := [(.ref w_o0__exams), (.int (0 : Int32)), (.int v1)]) (rest := []) rfl (lenOf own_pd_III__I_555 rfl) rfl (by show 2 * 0 + _ ≤ _; exact Nat.le_of_eq rfl) (hb hby own_dex0_18) (fun r4 T4 L4 X4 hQ4 => ?_)
  obtain ⟨br_4, rfl, Nq4, Kq4, szq_br_4, low_br_4, f0_4⟩ := hQ4
  have N4 := Fr.app N0 Nq4
  have ne5 : o0 ≠ br_4 := Nat.ne_of_lt (Nat.lt_of_lt_of_le F_o0__exams.lt szq_br_4)
  have ne6 : w_o0__exams ≠ br_4 := Nat.ne_of_lt (Nat.lt_of_lt_of_le A_w_o0__exams.lt szq_br_4)
  have ne7 : w_o0__starts ≠ br_4 := Nat.ne_of_lt (Nat.lt_of_lt_of_le A_w_o0__starts.lt szq_br_4)
  have sz_br_4 := Nat.le_trans K0.1 szq_br_4
  have K4 := Keep.trans K0 Kq4 all0
  show own_End p e below P (T4.setTop (mkF m 21 #[.val (.ref o0), .val (.int (0 : Int32))] [(.ref br_4)]))
  have Ar8 : own_IA Z T4.heap br_4 x := f0_4
  have hfin : (fun (v : Option Value) (h : Heap) (L : List Loc) => ∃ (br : Addr), v = some (.ref br) ∧ Fr n0 L ∧ Keep h0 h [] ∧ h0.size ≤ br ∧ n0 ≤ br ∧ own_IA Z h br x) (some (.ref br_4)) T4.heap _ := ⟨br_4, rfl, N4, K4, sz_br_4, low_br_4, Ar8⟩
  refine own_retR X4 hx hlk hP rfl rfl hrt (hb hby own_dex0_21) (by decide) (by decide) ?_
  exact hfin
theorem own_dex1_0 : decode prog_17_method_5_code 0 = .ok (.aload_n 0, 1) := by decide +kernel
theorem own_dex1_1 : decode prog_17_method_5_code 1 = .ok (.getfield 7, 3) := by decide +kernel
theorem own_dex1_4 : decode prog_17_method_5_code 4 = .ok (.aload_n 0, 1) := by decide +kernel
theorem own_dex1_5 : decode prog_17_method_5_code 5 = .ok (.getfield 13, 3) := by decide +kernel
theorem own_dex1_8 : decode prog_17_method_5_code 8 = .ok (.iload_n 1, 1) := by decide +kernel
theorem own_dex1_9 : decode prog_17_method_5_code 9 = .ok (.iaload, 1) := by decide +kernel
theorem own_dex1_10 : decode prog_17_method_5_code 10 = .ok (.aload_n 0, 1) := by decide +kernel
theorem own_dex1_11 : decode prog_17_method_5_code 11 = .ok (.getfield 13, 3) := by decide +kernel
theorem own_dex1_14 : decode prog_17_method_5_code 14 = .ok (.iload_n 1, 1) := by decide +kernel
theorem own_dex1_15 : decode prog_17_method_5_code 15 = .ok (.iconst 1, 1) := by decide +kernel
theorem own_dex1_16 : decode prog_17_method_5_code 16 = .ok (.iadd, 1) := by decide +kernel
theorem own_dex1_17 : decode prog_17_method_5_code 17 = .ok (.iaload, 1) := by decide +kernel
theorem own_dex1_18 : decode prog_17_method_5_code 18 = .ok (.invokestatic 26, 3) := by decide +kernel
theorem own_dex1_21 : decode prog_17_method_5_code 21 = .ok (.areturn, 1) := by decide +kernel
theorem own_efex1 (m : MethodId) (o0 : Addr) : entryFrame m #[(.ref o0), (.int (1 : Int32))] 2 = mkF m 0 #[.val (.ref o0), .val (.int (1 : Int32))] [] := by first | (simp [entryFrame, mkF, argsToLocals, Value.category]; done) | rfl
set_option maxRecDepth 65536 in
set_option maxHeartbeats 40000000 in
theorem own_mex1 (l : Launch) (Z : State) (a0 : Array Value) (hw : ∀ d ∈ tables_1, d.before a0 Z = true) (ws : List Jvm.Cond) (o0 : Addr) (v1 : Int32) (v2 : Int32) (v3 : Int32) (pre : List Int32) (x : List Int32) (post : List Int32) (w_o0__exams : Addr) (w_o0__starts : Addr) (h0 : Heap) (n0 : Nat) (Z0 : n0 ≤ h0.size) (F_o0__exams : Fld Z h0 o0 "com/example/ruangwaktu/ruangwaktu/exam/Enrolments" "_exams" "[I" (.ref w_o0__exams)) (F_o0__starts : Fld Z h0 o0 "com/example/ruangwaktu/ruangwaktu/exam/Enrolments" "_starts" "[I" (.ref w_o0__starts)) (A_w_o0__exams : own_IA Z h0 w_o0__exams (pre ++ (x ++ post))) (A_w_o0__starts : own_IA Z h0 w_o0__starts [(0 : Int32), v1, v2, v3]) (hp : v1.toInt = (pre.length : Int)) (hq : v2.toInt = ((pre.length + x.length : Nat) : Int)) (h6 : (pre ++ (x ++ post)).length ≤ 6) :
    own_Met l Z (⟨"com/example/ruangwaktu/ruangwaktu/exam/Enrolments", "examsOf", "(I)[I"⟩ : MethodName) prog_17_method_5_code 2 (some (.array .int)) ws ({ frames := 3, cells := 1, slots := 6, locals := 70 } : Room) #[(.ref o0), (.int (1 : Int32))] h0 (fun (v : Option Value) (h : Heap) (L : List Loc) => ∃ (br : Addr), v = some (.ref br) ∧ Fr n0 L ∧ Keep h0 h [] ∧ h0.size ≤ br ∧ n0 ≤ br ∧ own_IA Z h br x) := by
  refine own_enter (plainFor_of_name own_pn_com_example_ruangwaktu_ruangwaktu_exam_Enrolments) ?_
  intro p e s m below meth c s₁ P hx hby hml hrt hlk hown hnm hZ X0 e0 hP
  have N0 := Fr.nil n0
  have K0 := Keep.refl h0 []
  have hml' : c.maxLocals = 2 := hml
  refine own_cast (own_efex1 m o0) ?_
  show own_End p e below P (s₁.setTop (mkF m 0 #[.val (.ref o0), .val (.int (1 : Int32))] []))
  refine own_st (fun _ => XS.aloadN X0.here hx rfl (hb hby own_dex1_0) rfl rfl) ?_
  show own_End p e below P (s₁.setTop (mkF m 1 #[.val (.ref o0), .val (.int (1 : Int32))] [(.ref o0)]))
  obtain ⟨T1, X1, e1, st1⟩ := getF X0 hx hZ hown (host := "") (Or.inl (hw _ (List.mem_of_getElem? (i := 14) rfl))) Via.refl e0 F_o0__exams (g := (mkF m 1 #[.val (.ref o0), .val (.int (1 : Int32))] [(.ref o0)])) rfl rfl (hb hby own_dex1_1)
  refine own_st (fun _ => st1 _) ?_
  show own_End p e below P (T1.setTop (mkF m 4 #[.val (.ref o0), .val (.int (1 : Int32))] [(.ref w_o0__exams)]))
  refine own_st (fun _ => XS.aloadN X1.here hx rfl (hb hby own_dex1_4) rfl rfl) ?_
  show own_End p e below P (T1.setTop (mkF m 5 #[.val (.ref o0), .val (.int (1 : Int32))] [(.ref o0), (.ref w_o0__exams)]))
  obtain ⟨T2, X2, e2, st2⟩ := getF X1 hx hZ hown (host := "") (Or.inl (hw _ (List.mem_of_getElem? (i := 16) rfl))) Via.refl e1 F_o0__starts (g := (mkF m 5 #[.val (.ref o0), .val (.int (1 : Int32))] [(.ref o0), (.ref w_o0__exams)])) rfl rfl (hb hby own_dex1_5)
  refine own_st (fun _ => st2 _) ?_
  show own_End p e below P (T2.setTop (mkF m 8 #[.val (.ref o0), .val (.int (1 : Int32))] [(.ref w_o0__starts), (.ref w_o0__exams)]))
  refine own_st (fun _ => XS.iloadN X2.here hx rfl (hb hby own_dex1_8) rfl) ?_
  show own_End p e below P (T2.setTop (mkF m 9 #[.val (.ref o0), .val (.int (1 : Int32))] [(.int (1 : Int32)), (.ref w_o0__starts), (.ref w_o0__exams)]))
  refine own_iaload X2 hx hZ e2 A_w_o0__starts (j := (1 : Int32)) (v := v1) (i := 1) (by decide) rfl (g := (mkF m 9 #[.val (.ref o0), .val (.int (1 : Int32))] [(.int (1 : Int32)), (.ref w_o0__starts), (.ref w_o0__exams)])) rfl rfl (hb hby own_dex1_9) ?_
  show own_End p e below P (T2.setTop (mkF m 10 #[.val (.ref o0), .val (.int (1 : Int32))] [(.int v1), (.ref w_o0__exams)]))
  refine own_st (fun _ => XS.aloadN X2.here hx rfl (hb hby own_dex1_10) rfl rfl) ?_
  show own_End p e below P (T2.setTop (mkF m 11 #[.val (.ref o0), .val (.int (1 : Int32))] [(.ref o0), (.int v1), (.ref w_o0__exams)]))
  obtain ⟨T3, X3, e3, st3⟩ := getF X2 hx hZ hown (host := "") (Or.inl (hw _ (List.mem_of_getElem? (i := 16) rfl))) Via.refl e2 F_o0__starts (g := (mkF m 11 #[.val (.ref o0), .val (.int (1 : Int32))] [(.ref o0), (.int v1), (.ref w_o0__exams)])) rfl rfl (hb hby own_dex1_11)
  refine own_st (fun _ => st3 _) ?_
  show own_End p e below P (T3.setTop (mkF m 14 #[.val (.ref o0), .val (.int (1 : Int32))] [(.ref w_o0__starts), (.int v1), (.ref w_o0__exams)]))
  refine own_st (fun _ => XS.iloadN X3.here hx rfl (hb hby own_dex1_14) rfl) ?_
  show own_End p e below P (T3.setTop (mkF m 15 #[.val (.ref o0), .val (.int (1 : Int32))] [(.int (1 : Int32)), (.ref w_o0__starts), (.int v1), (.ref w_o0__exams)]))
  refine own_st (fun _ => XS.iconst X3.here hx rfl (hb hby own_dex1_15)) ?_
  show own_End p e below P (T3.setTop (mkF m 16 #[.val (.ref o0), .val (.int (1 : Int32))] [(.int (1 : Int32)), (.int (1 : Int32)), (.ref w_o0__starts), (.int v1), (.ref w_o0__exams)]))
  refine own_st (fun _ => XS.iadd X3.here hx rfl (hb hby own_dex1_16) rfl) ?_
  show own_End p e below P (T3.setTop (mkF m 17 #[.val (.ref o0), .val (.int (1 : Int32))] [(.int (2 : Int32)), (.ref w_o0__starts), (.int v1), (.ref w_o0__exams)]))
  refine own_iaload X3 hx hZ e3 A_w_o0__starts (j := (2 : Int32)) (v := v2) (i := 2) (by decide) rfl (g := (mkF m 17 #[.val (.ref o0), .val (.int (1 : Int32))] [(.int (2 : Int32)), (.ref w_o0__starts), (.int v1), (.ref w_o0__exams)])) rfl rfl (hb hby own_dex1_17) ?_
  show own_End p e below P (T3.setTop (mkF m 18 #[.val (.ref o0), .val (.int (1 : Int32))] [(.int v2), (.int v1), (.ref w_o0__exams)]))
  refine own_callS X3 hx hZ (y := (⟨"java/util/Arrays", "copyOfRange", "([III)[I"⟩ : MethodName)) hown (hw _ (List.mem_of_getElem? (i := 44) rfl)) (hw _ (List.mem_of_getElem? (i := 45) rfl)) (hw _ (List.mem_of_getElem? (i := 46) rfl)) (hw _ (List.mem_of_getElem? (i := 47) rfl)) (by decide) (own_mcr l Z a0 hw [] w_o0__exams v1 v2 pre x post h0 n0 (Nat.le_trans Z0 K0.1) A_w_o0__exams hp hq h6) 0 (by decide) (by decide) e3 (by decide) (by decide) (g := (mkF m 18 #[.val (.ref o0), .val (.int (1 : Int32))] [(.int v2), (.int v1), (.ref w_o0__exams)])) rfl (by rw [hml']; rfl) (argsL := [(.ref w_o0__exams), (.int v1), (.int v2)]) (rest := []) rfl (lenOf own_pd_III__I_555 rfl) rfl (by show 2 * 0 + _ ≤ _; exact Nat.le_of_eq rfl) (hb hby own_dex1_18) (fun r4 T4 L4 X4 hQ4 => ?_)
  obtain ⟨br_4, rfl, Nq4, Kq4, szq_br_4, low_br_4, f0_4⟩ := hQ4
  have N4 := Fr.app N0 Nq4
  have ne5 : o0 ≠ br_4 := Nat.ne_of_lt (Nat.lt_of_lt_of_le F_o0__exams.lt szq_br_4)
  have ne6 : w_o0__exams ≠ br_4 := Nat.ne_of_lt (Nat.lt_of_lt_of_le A_w_o0__exams.lt szq_br_4)
  have ne7 : w_o0__starts ≠ br_4 := Nat.ne_of_lt (Nat.lt_of_lt_of_le A_w_o0__starts.lt szq_br_4)
  have sz_br_4 := Nat.le_trans K0.1 szq_br_4
  have K4 := Keep.trans K0 Kq4 all0
  show own_End p e below P (T4.setTop (mkF m 21 #[.val (.ref o0), .val (.int (1 : Int32))] [(.ref br_4)]))
  have Ar8 : own_IA Z T4.heap br_4 x := f0_4
  have hfin : (fun (v : Option Value) (h : Heap) (L : List Loc) => ∃ (br : Addr), v = some (.ref br) ∧ Fr n0 L ∧ Keep h0 h [] ∧ h0.size ≤ br ∧ n0 ≤ br ∧ own_IA Z h br x) (some (.ref br_4)) T4.heap _ := ⟨br_4, rfl, N4, K4, sz_br_4, low_br_4, Ar8⟩
  refine own_retR X4 hx hlk hP rfl rfl hrt (hb hby own_dex1_21) (by decide) (by decide) ?_
  exact hfin
theorem own_dex2_0 : decode prog_17_method_5_code 0 = .ok (.aload_n 0, 1) := by decide +kernel
theorem own_dex2_1 : decode prog_17_method_5_code 1 = .ok (.getfield 7, 3) := by decide +kernel
theorem own_dex2_4 : decode prog_17_method_5_code 4 = .ok (.aload_n 0, 1) := by decide +kernel
theorem own_dex2_5 : decode prog_17_method_5_code 5 = .ok (.getfield 13, 3) := by decide +kernel
theorem own_dex2_8 : decode prog_17_method_5_code 8 = .ok (.iload_n 1, 1) := by decide +kernel
theorem own_dex2_9 : decode prog_17_method_5_code 9 = .ok (.iaload, 1) := by decide +kernel
theorem own_dex2_10 : decode prog_17_method_5_code 10 = .ok (.aload_n 0, 1) := by decide +kernel
theorem own_dex2_11 : decode prog_17_method_5_code 11 = .ok (.getfield 13, 3) := by decide +kernel
theorem own_dex2_14 : decode prog_17_method_5_code 14 = .ok (.iload_n 1, 1) := by decide +kernel
theorem own_dex2_15 : decode prog_17_method_5_code 15 = .ok (.iconst 1, 1) := by decide +kernel
theorem own_dex2_16 : decode prog_17_method_5_code 16 = .ok (.iadd, 1) := by decide +kernel
theorem own_dex2_17 : decode prog_17_method_5_code 17 = .ok (.iaload, 1) := by decide +kernel
theorem own_dex2_18 : decode prog_17_method_5_code 18 = .ok (.invokestatic 26, 3) := by decide +kernel
theorem own_dex2_21 : decode prog_17_method_5_code 21 = .ok (.areturn, 1) := by decide +kernel
theorem own_efex2 (m : MethodId) (o0 : Addr) : entryFrame m #[(.ref o0), (.int (2 : Int32))] 2 = mkF m 0 #[.val (.ref o0), .val (.int (2 : Int32))] [] := by first | (simp [entryFrame, mkF, argsToLocals, Value.category]; done) | rfl
set_option maxRecDepth 65536 in
set_option maxHeartbeats 40000000 in
theorem own_mex2 (l : Launch) (Z : State) (a0 : Array Value) (hw : ∀ d ∈ tables_1, d.before a0 Z = true) (ws : List Jvm.Cond) (o0 : Addr) (v1 : Int32) (v2 : Int32) (v3 : Int32) (pre : List Int32) (x : List Int32) (post : List Int32) (w_o0__exams : Addr) (w_o0__starts : Addr) (h0 : Heap) (n0 : Nat) (Z0 : n0 ≤ h0.size) (F_o0__exams : Fld Z h0 o0 "com/example/ruangwaktu/ruangwaktu/exam/Enrolments" "_exams" "[I" (.ref w_o0__exams)) (F_o0__starts : Fld Z h0 o0 "com/example/ruangwaktu/ruangwaktu/exam/Enrolments" "_starts" "[I" (.ref w_o0__starts)) (A_w_o0__exams : own_IA Z h0 w_o0__exams (pre ++ (x ++ post))) (A_w_o0__starts : own_IA Z h0 w_o0__starts [(0 : Int32), v1, v2, v3]) (hp : v2.toInt = (pre.length : Int)) (hq : v3.toInt = ((pre.length + x.length : Nat) : Int)) (h6 : (pre ++ (x ++ post)).length ≤ 6) :
    own_Met l Z (⟨"com/example/ruangwaktu/ruangwaktu/exam/Enrolments", "examsOf", "(I)[I"⟩ : MethodName) prog_17_method_5_code 2 (some (.array .int)) ws ({ frames := 3, cells := 1, slots := 6, locals := 70 } : Room) #[(.ref o0), (.int (2 : Int32))] h0 (fun (v : Option Value) (h : Heap) (L : List Loc) => ∃ (br : Addr), v = some (.ref br) ∧ Fr n0 L ∧ Keep h0 h [] ∧ h0.size ≤ br ∧ n0 ≤ br ∧ own_IA Z h br x) := by
  refine own_enter (plainFor_of_name own_pn_com_example_ruangwaktu_ruangwaktu_exam_Enrolments) ?_
  intro p e s m below meth c s₁ P hx hby hml hrt hlk hown hnm hZ X0 e0 hP
  have N0 := Fr.nil n0
  have K0 := Keep.refl h0 []
  have hml' : c.maxLocals = 2 := hml
  refine own_cast (own_efex2 m o0) ?_
  show own_End p e below P (s₁.setTop (mkF m 0 #[.val (.ref o0), .val (.int (2 : Int32))] []))
  refine own_st (fun _ => XS.aloadN X0.here hx rfl (hb hby own_dex2_0) rfl rfl) ?_
  show own_End p e below P (s₁.setTop (mkF m 1 #[.val (.ref o0), .val (.int (2 : Int32))] [(.ref o0)]))
  obtain ⟨T1, X1, e1, st1⟩ := getF X0 hx hZ hown (host := "") (Or.inl (hw _ (List.mem_of_getElem? (i := 14) rfl))) Via.refl e0 F_o0__exams (g := (mkF m 1 #[.val (.ref o0), .val (.int (2 : Int32))] [(.ref o0)])) rfl rfl (hb hby own_dex2_1)
  refine own_st (fun _ => st1 _) ?_
  show own_End p e below P (T1.setTop (mkF m 4 #[.val (.ref o0), .val (.int (2 : Int32))] [(.ref w_o0__exams)]))
  refine own_st (fun _ => XS.aloadN X1.here hx rfl (hb hby own_dex2_4) rfl rfl) ?_
  show own_End p e below P (T1.setTop (mkF m 5 #[.val (.ref o0), .val (.int (2 : Int32))] [(.ref o0), (.ref w_o0__exams)]))
  obtain ⟨T2, X2, e2, st2⟩ := getF X1 hx hZ hown (host := "") (Or.inl (hw _ (List.mem_of_getElem? (i := 16) rfl))) Via.refl e1 F_o0__starts (g := (mkF m 5 #[.val (.ref o0), .val (.int (2 : Int32))] [(.ref o0), (.ref w_o0__exams)])) rfl rfl (hb hby own_dex2_5)
  refine own_st (fun _ => st2 _) ?_
  show own_End p e below P (T2.setTop (mkF m 8 #[.val (.ref o0), .val (.int (2 : Int32))] [(.ref w_o0__starts), (.ref w_o0__exams)]))
  refine own_st (fun _ => XS.iloadN X2.here hx rfl (hb hby own_dex2_8) rfl) ?_
  show own_End p e below P (T2.setTop (mkF m 9 #[.val (.ref o0), .val (.int (2 : Int32))] [(.int (2 : Int32)), (.ref w_o0__starts), (.ref w_o0__exams)]))
  refine own_iaload X2 hx hZ e2 A_w_o0__starts (j := (2 : Int32)) (v := v2) (i := 2) (by decide) rfl (g := (mkF m 9 #[.val (.ref o0), .val (.int (2 : Int32))] [(.int (2 : Int32)), (.ref w_o0__starts), (.ref w_o0__exams)])) rfl rfl (hb hby own_dex2_9) ?_
  show own_End p e below P (T2.setTop (mkF m 10 #[.val (.ref o0), .val (.int (2 : Int32))] [(.int v2), (.ref w_o0__exams)]))
  refine own_st (fun _ => XS.aloadN X2.here hx rfl (hb hby own_dex2_10) rfl rfl) ?_
  show own_End p e below P (T2.setTop (mkF m 11 #[.val (.ref o0), .val (.int (2 : Int32))] [(.ref o0), (.int v2), (.ref w_o0__exams)]))
  obtain ⟨T3, X3, e3, st3⟩ := getF X2 hx hZ hown (host := "") (Or.inl (hw _ (List.mem_of_getElem? (i := 16) rfl))) Via.refl e2 F_o0__starts (g := (mkF m 11 #[.val (.ref o0), .val (.int (2 : Int32))] [(.ref o0), (.int v2), (.ref w_o0__exams)])) rfl rfl (hb hby own_dex2_11)
  refine own_st (fun _ => st3 _) ?_
  show own_End p e below P (T3.setTop (mkF m 14 #[.val (.ref o0), .val (.int (2 : Int32))] [(.ref w_o0__starts), (.int v2), (.ref w_o0__exams)]))
  refine own_st (fun _ => XS.iloadN X3.here hx rfl (hb hby own_dex2_14) rfl) ?_
  show own_End p e below P (T3.setTop (mkF m 15 #[.val (.ref o0), .val (.int (2 : Int32))] [(.int (2 : Int32)), (.ref w_o0__starts), (.int v2), (.ref w_o0__exams)]))
  refine own_st (fun _ => XS.iconst X3.here hx rfl (hb hby own_dex2_15)) ?_
  show own_End p e below P (T3.setTop (mkF m 16 #[.val (.ref o0), .val (.int (2 : Int32))] [(.int (1 : Int32)), (.int (2 : Int32)), (.ref w_o0__starts), (.int v2), (.ref w_o0__exams)]))
  refine own_st (fun _ => XS.iadd X3.here hx rfl (hb hby own_dex2_16) rfl) ?_
  show own_End p e below P (T3.setTop (mkF m 17 #[.val (.ref o0), .val (.int (2 : Int32))] [(.int (3 : Int32)), (.ref w_o0__starts), (.int v2), (.ref w_o0__exams)]))
  refine own_iaload X3 hx hZ e3 A_w_o0__starts (j := (3 : Int32)) (v := v3) (i := 3) (by decide) rfl (g := (mkF m 17 #[.val (.ref o0), .val (.int (2 : Int32))] [(.int (3 : Int32)), (.ref w_o0__starts), (.int v2), (.ref w_o0__exams)])) rfl rfl (hb hby own_dex2_17) ?_
  show own_End p e below P (T3.setTop (mkF m 18 #[.val (.ref o0), .val (.int (2 : Int32))] [(.int v3), (.int v2), (.ref w_o0__exams)]))
  refine own_callS X3 hx hZ (y := (⟨"java/util/Arrays", "copyOfRange", "([III)[I"⟩ : MethodName)) hown (hw _ (List.mem_of_getElem? (i := 44) rfl)) (hw _ (List.mem_of_getElem? (i := 45) rfl)) (hw _ (List.mem_of_getElem? (i := 46) rfl)) (hw _ (List.mem_of_getElem? (i := 47) rfl)) (by decide) (own_mcr l Z a0 hw [] w_o0__exams v2 v3 pre x post h0 n0 (Nat.le_trans Z0 K0.1) A_w_o0__exams hp hq h6) 0 (by decide) (by decide) e3 (by decide) (by decide) (g := (mkF m 18 #[.val (.ref o0), .val (.int (2 : Int32))] [(.int v3), (.int v2), (.ref w_o0__exams)])) rfl (by rw [hml']; rfl) (argsL := [(.ref w_o0__exams), (.int v2), (.int v3)]) (rest := []) rfl (lenOf own_pd_III__I_555 rfl) rfl (by show 2 * 0 + _ ≤ _; exact Nat.le_of_eq rfl) (hb hby own_dex2_18) (fun r4 T4 L4 X4 hQ4 => ?_)
  obtain ⟨br_4, rfl, Nq4, Kq4, szq_br_4, low_br_4, f0_4⟩ := hQ4
  have N4 := Fr.app N0 Nq4
  have ne5 : o0 ≠ br_4 := Nat.ne_of_lt (Nat.lt_of_lt_of_le F_o0__exams.lt szq_br_4)
  have ne6 : w_o0__exams ≠ br_4 := Nat.ne_of_lt (Nat.lt_of_lt_of_le A_w_o0__exams.lt szq_br_4)
  have ne7 : w_o0__starts ≠ br_4 := Nat.ne_of_lt (Nat.lt_of_lt_of_le A_w_o0__starts.lt szq_br_4)
  have sz_br_4 := Nat.le_trans K0.1 szq_br_4
  have K4 := Keep.trans K0 Kq4 all0
  show own_End p e below P (T4.setTop (mkF m 21 #[.val (.ref o0), .val (.int (2 : Int32))] [(.ref br_4)]))
  have Ar8 : own_IA Z T4.heap br_4 x := f0_4
  have hfin : (fun (v : Option Value) (h : Heap) (L : List Loc) => ∃ (br : Addr), v = some (.ref br) ∧ Fr n0 L ∧ Keep h0 h [] ∧ h0.size ≤ br ∧ n0 ≤ br ∧ own_IA Z h br x) (some (.ref br_4)) T4.heap _ := ⟨br_4, rfl, N4, K4, sz_br_4, low_br_4, Ar8⟩
  refine own_retR X4 hx hlk hP rfl rfl hrt (hb hby own_dex2_21) (by decide) (by decide) ?_
  exact hfin
theorem own_dmake_0 : decode method_2_code 0 = .ok (.iload_n 0, 1) := by decide +kernel
theorem own_dmake_1 : decode method_2_code 1 = .ok (.ifCond .ne 7, 3) := by decide +kernel
theorem own_dmake_4 : decode method_2_code 4 = .ok (.iconst 0, 1) := by decide +kernel
theorem own_dmake_5 : decode method_2_code 5 = .ok (.newarray .int, 2) := by decide +kernel
theorem own_dmake_7 : decode method_2_code 7 = .ok (.areturn, 1) := by decide +kernel
theorem own_dmake_8 : decode method_2_code 8 = .ok (.iload_n 0, 1) := by decide +kernel
theorem own_dmake_9 : decode method_2_code 9 = .ok (.iconst 1, 1) := by decide +kernel
theorem own_dmake_10 : decode method_2_code 10 = .ok (.if_icmp .ne 13, 3) := by decide +kernel
theorem own_dmake_13 : decode method_2_code 13 = .ok (.iconst 1, 1) := by decide +kernel
theorem own_dmake_14 : decode method_2_code 14 = .ok (.newarray .int, 2) := by decide +kernel
theorem own_dmake_16 : decode method_2_code 16 = .ok (.astore_n 3, 1) := by decide +kernel
theorem own_dmake_17 : decode method_2_code 17 = .ok (.aload_n 3, 1) := by decide +kernel
theorem own_dmake_18 : decode method_2_code 18 = .ok (.iconst 0, 1) := by decide +kernel
theorem own_dmake_19 : decode method_2_code 19 = .ok (.iload_n 1, 1) := by decide +kernel
theorem own_dmake_20 : decode method_2_code 20 = .ok (.iastore, 1) := by decide +kernel
theorem own_dmake_21 : decode method_2_code 21 = .ok (.aload_n 3, 1) := by decide +kernel
theorem own_dmake_22 : decode method_2_code 22 = .ok (.areturn, 1) := by decide +kernel
theorem own_dmake_23 : decode method_2_code 23 = .ok (.iconst 2, 1) := by decide +kernel
theorem own_dmake_24 : decode method_2_code 24 = .ok (.newarray .int, 2) := by decide +kernel
theorem own_dmake_26 : decode method_2_code 26 = .ok (.astore_n 3, 1) := by decide +kernel
theorem own_dmake_27 : decode method_2_code 27 = .ok (.aload_n 3, 1) := by decide +kernel
theorem own_dmake_28 : decode method_2_code 28 = .ok (.iconst 0, 1) := by decide +kernel
theorem own_dmake_29 : decode method_2_code 29 = .ok (.iload_n 1, 1) := by decide +kernel
theorem own_dmake_30 : decode method_2_code 30 = .ok (.iastore, 1) := by decide +kernel
theorem own_dmake_31 : decode method_2_code 31 = .ok (.aload_n 3, 1) := by decide +kernel
theorem own_dmake_32 : decode method_2_code 32 = .ok (.iconst 1, 1) := by decide +kernel
theorem own_dmake_33 : decode method_2_code 33 = .ok (.iload_n 2, 1) := by decide +kernel
theorem own_dmake_34 : decode method_2_code 34 = .ok (.iastore, 1) := by decide +kernel
theorem own_dmake_35 : decode method_2_code 35 = .ok (.aload_n 3, 1) := by decide +kernel
theorem own_dmake_36 : decode method_2_code 36 = .ok (.areturn, 1) := by decide +kernel
theorem own_efmake (m : MethodId) (p0 : Int32) (p1 : Int32) (p2 : Int32) : entryFrame m #[(.int p0), (.int p1), (.int p2)] 4 = mkF m 0 #[.val (.int p0), .val (.int p1), .val (.int p2), .unset] [] := by first | (simp [entryFrame, mkF, argsToLocals, Value.category]; done) | rfl
theorem own_pn_com_example_ruangwaktu_ruangwaktu_exam_EnrolmentsAddPinLaw : plainName "com/example/ruangwaktu/ruangwaktu/exam/EnrolmentsAddPinLaw" = true := by first | (simp [plainName, overriddenIn]; done) | decide +kernel
set_option maxRecDepth 65536 in
set_option maxHeartbeats 40000000 in
theorem own_mmake (l : Launch) (Z : State) (a0 : Array Value) (hw : ∀ d ∈ tables_1, d.before a0 Z = true) (ws : List Jvm.Cond) (p0 : Int32) (p1 : Int32) (p2 : Int32)  (h0 : Heap) (n0 : Nat) (Z0 : n0 ≤ h0.size)  :
    own_Met l Z (⟨"com/example/ruangwaktu/ruangwaktu/exam/EnrolmentsAddPinLaw", "make", "(III)[I"⟩ : MethodName) method_2_code 4 (some (.array .int)) ws ({ frames := 0, cells := 1, slots := 2, locals := 0 } : Room) #[(.int p0), (.int p1), (.int p2)] h0 (fun (v : Option Value) (h : Heap) (L : List Loc) => ∃ (br : Addr), v = some (.ref br) ∧ Fr n0 L ∧ Keep h0 h [] ∧ h0.size ≤ br ∧ n0 ≤ br ∧ own_IA Z h br (own_mk p0 p1 p2)) := by
  refine own_enter (plainFor_of_name own_pn_com_example_ruangwaktu_ruangwaktu_exam_EnrolmentsAddPinLaw) ?_
  intro p e s m below meth c s₁ P hx hby hml hrt hlk hown hnm hZ X0 e0 hP
  have N0 := Fr.nil n0
  have K0 := Keep.refl h0 []
  have hml' : c.maxLocals = 4 := hml
  refine own_cast (own_efmake m p0 p1 p2) ?_
  show own_End p e below P (s₁.setTop (mkF m 0 #[.val (.int p0), .val (.int p1), .val (.int p2), .unset] []))
  refine own_st (fun _ => XS.iloadN X0.here hx rfl (hb hby own_dmake_0) rfl) ?_
  show own_End p e below P (s₁.setTop (mkF m 1 #[.val (.int p0), .val (.int p1), .val (.int p2), .unset] [(.int p0)]))
  by_cases hc1 : p0 = (0 : Int32)
  · refine own_st (fun _ => XS.ifNo X0.here hx rfl (hb hby own_dmake_1) rfl ((if0 _ _).trans (teq hc1).2)) ?_
    show own_End p e below P (s₁.setTop (mkF m 4 #[.val (.int p0), .val (.int p1), .val (.int p2), .unset] []))
    refine own_st (fun _ => XS.iconst X0.here hx rfl (hb hby own_dmake_4)) ?_
    show own_End p e below P (s₁.setTop (mkF m 5 #[.val (.int p0), .val (.int p1), .val (.int p2), .unset] [(.int (0 : Int32))]))
    refine own_newI X0 hx hZ (hw _ (List.mem_of_getElem? (i := 4) rfl)) e0 (j := (0 : Int32)) (n := 0) (by decide) 0 (by decide) (by decide) (by decide) (by decide) (g := (mkF m 5 #[.val (.int p0), .val (.int p1), .val (.int p2), .unset] [(.int (0 : Int32))])) rfl rfl (hb hby own_dmake_5) (fun T2 h2 X2 e2 E2 B2 => ?_)
    obtain ⟨b2, g2⟩ : ∃ z, z = h0.size := ⟨_, rfl⟩
    rw [← g2] at B2 ⊢
    have low_b2 : n0 ≤ b2 := Nat.le_trans (Nat.le_trans Z0 K0.1) (Nat.le_of_eq g2.symm)
    have sz_b2 : h0.size ≤ b2 := Nat.le_trans K0.1 (Nat.le_of_eq g2.symm)
    have K2 := Keep.ext K0 E2
    have A2 : own_IA Z h2 b2 [] := B2
    show own_End p e below P (T2.setTop (mkF m 7 #[.val (.int p0), .val (.int p1), .val (.int p2), .unset] [(.ref b2)]))
    have Ar3 : own_IA Z h2 b2 (own_mk p0 p1 p2) := by unfold own_mk; rw [if_pos hc1]; exact A2
    have hfin : (fun (v : Option Value) (h : Heap) (L : List Loc) => ∃ (br : Addr), v = some (.ref br) ∧ Fr n0 L ∧ Keep h0 h [] ∧ h0.size ≤ br ∧ n0 ≤ br ∧ own_IA Z h br (own_mk p0 p1 p2)) (some (.ref b2)) h2 _ := ⟨b2, rfl, N0, K2, sz_b2, low_b2, Ar3⟩
    refine own_retR X2 hx hlk hP rfl rfl hrt (hb hby own_dmake_7) (by decide) (by decide) ?_
    rw [e2]; exact hfin
  · refine own_st (fun _ => XS.ifYes X0.here hx rfl (pc0 := 1) (pc' := 8) rfl (hb hby own_dmake_1) rfl ((if0 _ _).trans (feq hc1).2) (by decide) (by decide)) ?_
    show own_End p e below P (s₁.setTop (mkF m 8 #[.val (.int p0), .val (.int p1), .val (.int p2), .unset] []))
    refine own_st (fun _ => XS.iloadN X0.here hx rfl (hb hby own_dmake_8) rfl) ?_
    show own_End p e below P (s₁.setTop (mkF m 9 #[.val (.int p0), .val (.int p1), .val (.int p2), .unset] [(.int p0)]))
    refine own_st (fun _ => XS.iconst X0.here hx rfl (hb hby own_dmake_9)) ?_
    show own_End p e below P (s₁.setTop (mkF m 10 #[.val (.int p0), .val (.int p1), .val (.int p2), .unset] [(.int (1 : Int32)), (.int p0)]))
    by_cases hc4 : p0 = (1 : Int32)
    · refine own_st (fun _ => XS.icmpNo X0.here hx rfl (hb hby own_dmake_10) rfl (teq hc4).2) ?_
      show own_End p e below P (s₁.setTop (mkF m 13 #[.val (.int p0), .val (.int p1), .val (.int p2), .unset] []))
      refine own_st (fun _ => XS.iconst X0.here hx rfl (hb hby own_dmake_13)) ?_
      show own_End p e below P (s₁.setTop (mkF m 14 #[.val (.int p0), .val (.int p1), .val (.int p2), .unset] [(.int (1 : Int32))]))
      refine own_newI X0 hx hZ (hw _ (List.mem_of_getElem? (i := 4) rfl)) e0 (j := (1 : Int32)) (n := 1) (by decide) 1 (by decide) (by decide) (by decide) (by decide) (g := (mkF m 14 #[.val (.int p0), .val (.int p1), .val (.int p2), .unset] [(.int (1 : Int32))])) rfl rfl (hb hby own_dmake_14) (fun T5 h5 X5 e5 E5 B5 => ?_)
      obtain ⟨b5, g5⟩ : ∃ z, z = h0.size := ⟨_, rfl⟩
      rw [← g5] at B5 ⊢
      have low_b5 : n0 ≤ b5 := Nat.le_trans (Nat.le_trans Z0 K0.1) (Nat.le_of_eq g5.symm)
      have sz_b5 : h0.size ≤ b5 := Nat.le_trans K0.1 (Nat.le_of_eq g5.symm)
      have K5 := Keep.ext K0 E5
      have A5 : own_IA Z h5 b5 [(0 : Int32)] := B5
      show own_End p e below P (T5.setTop (mkF m 16 #[.val (.int p0), .val (.int p1), .val (.int p2), .unset] [(.ref b5)]))
      refine own_st (fun _ => XS.astoreN X5.here hx rfl (hb hby own_dmake_16) rfl rfl (l' := #[.val (.int p0), .val (.int p1), .val (.int p2), .val (.ref b5)]) rfl) ?_
      show own_End p e below P (T5.setTop (mkF m 17 #[.val (.int p0), .val (.int p1), .val (.int p2), .val (.ref b5)] []))
      refine own_st (fun _ => XS.aloadN X5.here hx rfl (hb hby own_dmake_17) rfl rfl) ?_
      show own_End p e below P (T5.setTop (mkF m 18 #[.val (.int p0), .val (.int p1), .val (.int p2), .val (.ref b5)] [(.ref b5)]))
      refine own_st (fun _ => XS.iconst X5.here hx rfl (hb hby own_dmake_18)) ?_
      show own_End p e below P (T5.setTop (mkF m 19 #[.val (.int p0), .val (.int p1), .val (.int p2), .val (.ref b5)] [(.int (0 : Int32)), (.ref b5)]))
      refine own_st (fun _ => XS.iloadN X5.here hx rfl (hb hby own_dmake_19) rfl) ?_
      show own_End p e below P (T5.setTop (mkF m 20 #[.val (.int p0), .val (.int p1), .val (.int p2), .val (.ref b5)] [(.int p1), (.int (0 : Int32)), (.ref b5)]))
      refine own_iastore X5 hx hZ e5 A5 (j := (0 : Int32)) (v := p1) (i := 0) (by decide) (by show (0 : Nat) < 1; decide) (g := (mkF m 20 #[.val (.int p0), .val (.int p1), .val (.int p2), .val (.ref b5)] [(.int p1), (.int (0 : Int32)), (.ref b5)])) rfl rfl (hb hby own_dmake_20) (fun T6 h6 X6 e6 W6 B6 => ?_)
      have A6 : own_IA Z h6 b5 [p1] := B6
      have N6 := Fr.snoc X6 N0 low_b5
      have K6 := Keep.wr K5 W6 (Or.inr sz_b5)
      show own_End p e below P (T6.setTop (mkF m 21 #[.val (.int p0), .val (.int p1), .val (.int p2), .val (.ref b5)] []))
      refine own_st (fun _ => XS.aloadN X6.here hx rfl (hb hby own_dmake_21) rfl rfl) ?_
      show own_End p e below P (T6.setTop (mkF m 22 #[.val (.int p0), .val (.int p1), .val (.int p2), .val (.ref b5)] [(.ref b5)]))
      have Ar7 : own_IA Z h6 b5 (own_mk p0 p1 p2) := by unfold own_mk; rw [if_neg hc1, if_pos hc4]; exact A6
      have hfin : (fun (v : Option Value) (h : Heap) (L : List Loc) => ∃ (br : Addr), v = some (.ref br) ∧ Fr n0 L ∧ Keep h0 h [] ∧ h0.size ≤ br ∧ n0 ≤ br ∧ own_IA Z h br (own_mk p0 p1 p2)) (some (.ref b5)) h6 _ := ⟨b5, rfl, N6, K6, sz_b5, low_b5, Ar7⟩
      refine own_retR X6 hx hlk hP rfl rfl hrt (hb hby own_dmake_22) (by decide) (by decide) ?_
      rw [e6]; exact hfin
    · refine own_st (fun _ => XS.icmpYes X0.here hx rfl (pc0 := 10) (pc' := 23) rfl (hb hby own_dmake_10) rfl (feq hc4).2 (by decide) (by decide)) ?_
      show own_End p e below P (s₁.setTop (mkF m 23 #[.val (.int p0), .val (.int p1), .val (.int p2), .unset] []))
      refine own_st (fun _ => XS.iconst X0.here hx rfl (hb hby own_dmake_23)) ?_
      show own_End p e below P (s₁.setTop (mkF m 24 #[.val (.int p0), .val (.int p1), .val (.int p2), .unset] [(.int (2 : Int32))]))
      refine own_newI X0 hx hZ (hw _ (List.mem_of_getElem? (i := 4) rfl)) e0 (j := (2 : Int32)) (n := 2) (by decide) 2 (by decide) (by decide) (by decide) (by decide) (g := (mkF m 24 #[.val (.int p0), .val (.int p1), .val (.int p2), .unset] [(.int (2 : Int32))])) rfl rfl (hb hby own_dmake_24) (fun T8 h8 X8 e8 E8 B8 => ?_)
      obtain ⟨b8, g8⟩ : ∃ z, z = h0.size := ⟨_, rfl⟩
      rw [← g8] at B8 ⊢
      have low_b8 : n0 ≤ b8 := Nat.le_trans (Nat.le_trans Z0 K0.1) (Nat.le_of_eq g8.symm)
      have sz_b8 : h0.size ≤ b8 := Nat.le_trans K0.1 (Nat.le_of_eq g8.symm)
      have K8 := Keep.ext K0 E8
      have A8 : own_IA Z h8 b8 [(0 : Int32), (0 : Int32)] := B8
      show own_End p e below P (T8.setTop (mkF m 26 #[.val (.int p0), .val (.int p1), .val (.int p2), .unset] [(.ref b8)]))
      refine own_st (fun _ => XS.astoreN X8.here hx rfl (hb hby own_dmake_26) rfl rfl (l' := #[.val (.int p0), .val (.int p1), .val (.int p2), .val (.ref b8)]) rfl) ?_
      show own_End p e below P (T8.setTop (mkF m 27 #[.val (.int p0), .val (.int p1), .val (.int p2), .val (.ref b8)] []))
      refine own_st (fun _ => XS.aloadN X8.here hx rfl (hb hby own_dmake_27) rfl rfl) ?_
      show own_End p e below P (T8.setTop (mkF m 28 #[.val (.int p0), .val (.int p1), .val (.int p2), .val (.ref b8)] [(.ref b8)]))
      refine own_st (fun _ => XS.iconst X8.here hx rfl (hb hby own_dmake_28)) ?_
      show own_End p e below P (T8.setTop (mkF m 29 #[.val (.int p0), .val (.int p1), .val (.int p2), .val (.ref b8)] [(.int (0 : Int32)), (.ref b8)]))
      refine own_st (fun _ => XS.iloadN X8.here hx rfl (hb hby own_dmake_29) rfl) ?_
      show own_End p e below P (T8.setTop (mkF m 30 #[.val (.int p0), .val (.int p1), .val (.int p2), .val (.ref b8)] [(.int p1), (.int (0 : Int32)), (.ref b8)]))
      refine own_iastore X8 hx hZ e8 A8 (j := (0 : Int32)) (v := p1) (i := 0) (by decide) (by show (0 : Nat) < 2; decide) (g := (mkF m 30 #[.val (.int p0), .val (.int p1), .val (.int p2), .val (.ref b8)] [(.int p1), (.int (0 : Int32)), (.ref b8)])) rfl rfl (hb hby own_dmake_30) (fun T9 h9 X9 e9 W9 B9 => ?_)
      have A9 : own_IA Z h9 b8 [p1, (0 : Int32)] := B9
      have N9 := Fr.snoc X9 N0 low_b8
      have K9 := Keep.wr K8 W9 (Or.inr sz_b8)
      show own_End p e below P (T9.setTop (mkF m 31 #[.val (.int p0), .val (.int p1), .val (.int p2), .val (.ref b8)] []))
      refine own_st (fun _ => XS.aloadN X9.here hx rfl (hb hby own_dmake_31) rfl rfl) ?_
      show own_End p e below P (T9.setTop (mkF m 32 #[.val (.int p0), .val (.int p1), .val (.int p2), .val (.ref b8)] [(.ref b8)]))
      refine own_st (fun _ => XS.iconst X9.here hx rfl (hb hby own_dmake_32)) ?_
      show own_End p e below P (T9.setTop (mkF m 33 #[.val (.int p0), .val (.int p1), .val (.int p2), .val (.ref b8)] [(.int (1 : Int32)), (.ref b8)]))
      refine own_st (fun _ => XS.iloadN X9.here hx rfl (hb hby own_dmake_33) rfl) ?_
      show own_End p e below P (T9.setTop (mkF m 34 #[.val (.int p0), .val (.int p1), .val (.int p2), .val (.ref b8)] [(.int p2), (.int (1 : Int32)), (.ref b8)]))
      refine own_iastore X9 hx hZ e9 A9 (j := (1 : Int32)) (v := p2) (i := 1) (by decide) (by show (1 : Nat) < 2; decide) (g := (mkF m 34 #[.val (.int p0), .val (.int p1), .val (.int p2), .val (.ref b8)] [(.int p2), (.int (1 : Int32)), (.ref b8)])) rfl rfl (hb hby own_dmake_34) (fun T10 h10 X10 e10 W10 B10 => ?_)
      have A10 : own_IA Z h10 b8 [p1, p2] := B10
      have N10 := Fr.snoc X10 N9 low_b8
      have K10 := Keep.wr K9 W10 (Or.inr sz_b8)
      show own_End p e below P (T10.setTop (mkF m 35 #[.val (.int p0), .val (.int p1), .val (.int p2), .val (.ref b8)] []))
      refine own_st (fun _ => XS.aloadN X10.here hx rfl (hb hby own_dmake_35) rfl rfl) ?_
      show own_End p e below P (T10.setTop (mkF m 36 #[.val (.int p0), .val (.int p1), .val (.int p2), .val (.ref b8)] [(.ref b8)]))
      have Ar11 : own_IA Z h10 b8 (own_mk p0 p1 p2) := by unfold own_mk; rw [if_neg hc1, if_neg hc4]; exact A10
      have hfin : (fun (v : Option Value) (h : Heap) (L : List Loc) => ∃ (br : Addr), v = some (.ref br) ∧ Fr n0 L ∧ Keep h0 h [] ∧ h0.size ≤ br ∧ n0 ≤ br ∧ own_IA Z h br (own_mk p0 p1 p2)) (some (.ref b8)) h10 _ := ⟨b8, rfl, N10, K10, sz_b8, low_b8, Ar11⟩
      refine own_retR X10 hx hlk hP rfl rfl hrt (hb hby own_dmake_36) (by decide) (by decide) ?_
      rw [e10]; exact hfin
theorem own_n0 {p : Int32} {k : Int32} (hk : 0 < k.toInt) (h : ¬ p < k) : ¬ p = (0 : Int32) := fun q => by
  rw [q, Int32.lt_iff_toInt_lt] at h; have : (0 : Int32).toInt = 0 := by decide
  omega
theorem own_n1 {p : Int32} (h : ¬ p < (2 : Int32)) : ¬ p = (1 : Int32) := fun q => by rw [q] at h; exact absurd (by decide) h
theorem own_dsame_0 : decode method_3_code 0 = .ok (.aload_n 0, 1) := by decide +kernel
theorem own_dsame_1 : decode method_3_code 1 = .ok (.ifnull 9, 3) := by decide +kernel
theorem own_dsame_4 : decode method_3_code 4 = .ok (.aload_n 0, 1) := by decide +kernel
theorem own_dsame_5 : decode method_3_code 5 = .ok (.arraylength, 1) := by decide +kernel
theorem own_dsame_6 : decode method_3_code 6 = .ok (.iload_n 1, 1) := by decide +kernel
theorem own_dsame_7 : decode method_3_code 7 = .ok (.if_icmp .eq 5, 3) := by decide +kernel
theorem own_dsame_12 : decode method_3_code 12 = .ok (.iload_n 1, 1) := by decide +kernel
theorem own_dsame_13 : decode method_3_code 13 = .ok (.iconst 1, 1) := by decide +kernel
theorem own_dsame_14 : decode method_3_code 14 = .ok (.if_icmp .lt 12, 3) := by decide +kernel
theorem own_dsame_26 : decode method_3_code 26 = .ok (.iload_n 1, 1) := by decide +kernel
theorem own_dsame_27 : decode method_3_code 27 = .ok (.iconst 2, 1) := by decide +kernel
theorem own_dsame_28 : decode method_3_code 28 = .ok (.if_icmp .lt 12, 3) := by decide +kernel
theorem own_dsame_40 : decode method_3_code 40 = .ok (.iconst 1, 1) := by decide +kernel
theorem own_dsame_41 : decode method_3_code 41 = .ok (.ireturn, 1) := by decide +kernel
theorem own_dsame_31 : decode method_3_code 31 = .ok (.aload_n 0, 1) := by decide +kernel
theorem own_dsame_32 : decode method_3_code 32 = .ok (.iconst 1, 1) := by decide +kernel
theorem own_dsame_33 : decode method_3_code 33 = .ok (.iaload, 1) := by decide +kernel
theorem own_dsame_34 : decode method_3_code 34 = .ok (.iload_n 3, 1) := by decide +kernel
theorem own_dsame_35 : decode method_3_code 35 = .ok (.if_icmp .eq 5, 3) := by decide +kernel
theorem own_dsame_17 : decode method_3_code 17 = .ok (.aload_n 0, 1) := by decide +kernel
theorem own_dsame_18 : decode method_3_code 18 = .ok (.iconst 0, 1) := by decide +kernel
theorem own_dsame_19 : decode method_3_code 19 = .ok (.iaload, 1) := by decide +kernel
theorem own_dsame_20 : decode method_3_code 20 = .ok (.iload_n 2, 1) := by decide +kernel
theorem own_dsame_21 : decode method_3_code 21 = .ok (.if_icmp .eq 5, 3) := by decide +kernel
theorem own_efsame (m : MethodId) (o0 : Addr) (p1 : Int32) (p2 : Int32) (p3 : Int32) : entryFrame m #[(.ref o0), (.int p1), (.int p2), (.int p3)] 4 = mkF m 0 #[.val (.ref o0), .val (.int p1), .val (.int p2), .val (.int p3)] [] := by first | (simp [entryFrame, mkF, argsToLocals, Value.category]; done) | rfl
set_option maxRecDepth 65536 in
set_option maxHeartbeats 40000000 in
theorem own_msame (l : Launch) (Z : State) (a0 : Array Value) (hw : ∀ d ∈ tables_1, d.before a0 Z = true) (ws : List Jvm.Cond) (o0 : Addr) (p1 : Int32) (p2 : Int32) (p3 : Int32) (n1 : Nat) (h0 : Heap) (n0 : Nat) (Z0 : n0 ≤ h0.size) (A_o0 : own_IA Z h0 o0 (own_mk p1 p2 p3)) (hn : p1.toInt = (n1 : Int)) (hn2 : n1 ≤ 2) :
    own_Met l Z (⟨"com/example/ruangwaktu/ruangwaktu/exam/EnrolmentsAddPinLaw", "same", "([IIII)Z"⟩ : MethodName) method_3_code 4 (some .boolean) ws ({ frames := 0, cells := 0, slots := 0, locals := 0 } : Room) #[(.ref o0), (.int p1), (.int p2), (.int p3)] h0 (fun (v : Option Value) (h : Heap) (L : List Loc) => v = some (.int (1 : Int32)) ∧ Fr n0 L ∧ h = h0) := by
  refine own_enter (plainFor_of_name own_pn_com_example_ruangwaktu_ruangwaktu_exam_EnrolmentsAddPinLaw) ?_
  intro p e s m below meth c s₁ P hx hby hml hrt hlk hown hnm hZ X0 e0 hP
  have N0 := Fr.nil n0
  have K0 := Keep.refl h0 []
  have hml' : c.maxLocals = 4 := hml
  refine own_cast (own_efsame m o0 p1 p2 p3) ?_
  show own_End p e below P (s₁.setTop (mkF m 0 #[.val (.ref o0), .val (.int p1), .val (.int p2), .val (.int p3)] []))
  refine own_st (fun _ => XS.aloadN X0.here hx rfl (hb hby own_dsame_0) rfl rfl) ?_
  show own_End p e below P (s₁.setTop (mkF m 1 #[.val (.ref o0), .val (.int p1), .val (.int p2), .val (.int p3)] [(.ref o0)]))
  refine own_st (fun _ => XS.ifnullNo X0.here hx rfl (hb hby own_dsame_1) rfl) ?_
  show own_End p e below P (s₁.setTop (mkF m 4 #[.val (.ref o0), .val (.int p1), .val (.int p2), .val (.int p3)] []))
  refine own_st (fun _ => XS.aloadN X0.here hx rfl (hb hby own_dsame_4) rfl rfl) ?_
  show own_End p e below P (s₁.setTop (mkF m 5 #[.val (.ref o0), .val (.int p1), .val (.int p2), .val (.int p3)] [(.ref o0)]))
  refine own_alen X0 hx hZ e0 A_o0 (g := (mkF m 5 #[.val (.ref o0), .val (.int p1), .val (.int p2), .val (.int p3)] [(.ref o0)])) rfl rfl (hb hby own_dsame_5) ?_
  show own_End p e below P (s₁.setTop (mkF m 6 #[.val (.ref o0), .val (.int p1), .val (.int p2), .val (.int p3)] [(.int (Int32.ofNat (own_mk p1 p2 p3).length))]))
  refine own_st (fun _ => XS.iloadN X0.here hx rfl (hb hby own_dsame_6) rfl) ?_
  show own_End p e below P (s₁.setTop (mkF m 7 #[.val (.ref o0), .val (.int p1), .val (.int p2), .val (.int p3)] [(.int p1), (.int (Int32.ofNat (own_mk p1 p2 p3).length))]))
  have hc1 : (Int32.ofNat (own_mk p1 p2 p3).length) = p1 := by exact own_mk_ofNat hn hn2
  refine own_st (fun _ => XS.icmpYes X0.here hx rfl (pc0 := 7) (pc' := 12) rfl (hb hby own_dsame_7) rfl (teq hc1).1 (by decide) (by decide)) ?_
  show own_End p e below P (s₁.setTop (mkF m 12 #[.val (.ref o0), .val (.int p1), .val (.int p2), .val (.int p3)] []))
  refine own_st (fun _ => XS.iloadN X0.here hx rfl (hb hby own_dsame_12) rfl) ?_
  show own_End p e below P (s₁.setTop (mkF m 13 #[.val (.ref o0), .val (.int p1), .val (.int p2), .val (.int p3)] [(.int p1)]))
  refine own_st (fun _ => XS.iconst X0.here hx rfl (hb hby own_dsame_13)) ?_
  show own_End p e below P (s₁.setTop (mkF m 14 #[.val (.ref o0), .val (.int p1), .val (.int p2), .val (.int p3)] [(.int (1 : Int32)), (.int p1)]))
  by_cases hc2 : p1 < (1 : Int32)
  · refine own_st (fun _ => XS.icmpYes X0.here hx rfl (pc0 := 14) (pc' := 26) rfl (hb hby own_dsame_14) rfl (tlt hc2).1 (by decide) (by decide)) ?_
    show own_End p e below P (s₁.setTop (mkF m 26 #[.val (.ref o0), .val (.int p1), .val (.int p2), .val (.int p3)] []))
    refine own_st (fun _ => XS.iloadN X0.here hx rfl (hb hby own_dsame_26) rfl) ?_
    show own_End p e below P (s₁.setTop (mkF m 27 #[.val (.ref o0), .val (.int p1), .val (.int p2), .val (.int p3)] [(.int p1)]))
    refine own_st (fun _ => XS.iconst X0.here hx rfl (hb hby own_dsame_27)) ?_
    show own_End p e below P (s₁.setTop (mkF m 28 #[.val (.ref o0), .val (.int p1), .val (.int p2), .val (.int p3)] [(.int (2 : Int32)), (.int p1)]))
    by_cases hc3 : p1 < (2 : Int32)
    · refine own_st (fun _ => XS.icmpYes X0.here hx rfl (pc0 := 28) (pc' := 40) rfl (hb hby own_dsame_28) rfl (tlt hc3).1 (by decide) (by decide)) ?_
      show own_End p e below P (s₁.setTop (mkF m 40 #[.val (.ref o0), .val (.int p1), .val (.int p2), .val (.int p3)] []))
      refine own_st (fun _ => XS.iconst X0.here hx rfl (hb hby own_dsame_40)) ?_
      show own_End p e below P (s₁.setTop (mkF m 41 #[.val (.ref o0), .val (.int p1), .val (.int p2), .val (.int p3)] [(.int (1 : Int32))]))
      exact own_retN X0 hx hlk hP (t := .boolean) (by simp) hrt (hb hby own_dsame_41) (by decide) (by decide) ⟨rfl, N0, e0⟩
    · refine own_st (fun _ => XS.icmpNo X0.here hx rfl (hb hby own_dsame_28) rfl (flt hc3).1) ?_
      show own_End p e below P (s₁.setTop (mkF m 31 #[.val (.ref o0), .val (.int p1), .val (.int p2), .val (.int p3)] []))
      have hnz2 := own_n0 (by decide) hc3
      have hno := own_n1 hc3
      refine own_st (fun _ => XS.aloadN X0.here hx rfl (hb hby own_dsame_31) rfl rfl) ?_
      show own_End p e below P (s₁.setTop (mkF m 32 #[.val (.ref o0), .val (.int p1), .val (.int p2), .val (.int p3)] [(.ref o0)]))
      refine own_st (fun _ => XS.iconst X0.here hx rfl (hb hby own_dsame_32)) ?_
      show own_End p e below P (s₁.setTop (mkF m 33 #[.val (.ref o0), .val (.int p1), .val (.int p2), .val (.int p3)] [(.int (1 : Int32)), (.ref o0)]))
      refine own_iaload X0 hx hZ e0 A_o0 (j := (1 : Int32)) (v := p3) (i := 1) own_o32 (own_mk1 hnz2 hno) (g := (mkF m 33 #[.val (.ref o0), .val (.int p1), .val (.int p2), .val (.int p3)] [(.int (1 : Int32)), (.ref o0)])) rfl rfl (hb hby own_dsame_33) ?_
      show own_End p e below P (s₁.setTop (mkF m 34 #[.val (.ref o0), .val (.int p1), .val (.int p2), .val (.int p3)] [(.int p3)]))
      refine own_st (fun _ => XS.iloadN X0.here hx rfl (hb hby own_dsame_34) rfl) ?_
      show own_End p e below P (s₁.setTop (mkF m 35 #[.val (.ref o0), .val (.int p1), .val (.int p2), .val (.int p3)] [(.int p3), (.int p3)]))
      refine own_st (fun _ => XS.icmpYes X0.here hx rfl (pc0 := 35) (pc' := 40) rfl (hb hby own_dsame_35) rfl (teq (rfl : p3 = p3)).1 (by decide) (by decide)) ?_
      show own_End p e below P (s₁.setTop (mkF m 40 #[.val (.ref o0), .val (.int p1), .val (.int p2), .val (.int p3)] []))
      refine own_st (fun _ => XS.iconst X0.here hx rfl (hb hby own_dsame_40)) ?_
      show own_End p e below P (s₁.setTop (mkF m 41 #[.val (.ref o0), .val (.int p1), .val (.int p2), .val (.int p3)] [(.int (1 : Int32))]))
      exact own_retN X0 hx hlk hP (t := .boolean) (by simp) hrt (hb hby own_dsame_41) (by decide) (by decide) ⟨rfl, N0, e0⟩
  · refine own_st (fun _ => XS.icmpNo X0.here hx rfl (hb hby own_dsame_14) rfl (flt hc2).1) ?_
    show own_End p e below P (s₁.setTop (mkF m 17 #[.val (.ref o0), .val (.int p1), .val (.int p2), .val (.int p3)] []))
    have hnz := own_n0 (by decide) hc2
    refine own_st (fun _ => XS.aloadN X0.here hx rfl (hb hby own_dsame_17) rfl rfl) ?_
    show own_End p e below P (s₁.setTop (mkF m 18 #[.val (.ref o0), .val (.int p1), .val (.int p2), .val (.int p3)] [(.ref o0)]))
    refine own_st (fun _ => XS.iconst X0.here hx rfl (hb hby own_dsame_18)) ?_
    show own_End p e below P (s₁.setTop (mkF m 19 #[.val (.ref o0), .val (.int p1), .val (.int p2), .val (.int p3)] [(.int (0 : Int32)), (.ref o0)]))
    refine own_iaload X0 hx hZ e0 A_o0 (j := (0 : Int32)) (v := p2) (i := 0) own_z32 (own_mk0 hnz) (g := (mkF m 19 #[.val (.ref o0), .val (.int p1), .val (.int p2), .val (.int p3)] [(.int (0 : Int32)), (.ref o0)])) rfl rfl (hb hby own_dsame_19) ?_
    show own_End p e below P (s₁.setTop (mkF m 20 #[.val (.ref o0), .val (.int p1), .val (.int p2), .val (.int p3)] [(.int p2)]))
    refine own_st (fun _ => XS.iloadN X0.here hx rfl (hb hby own_dsame_20) rfl) ?_
    show own_End p e below P (s₁.setTop (mkF m 21 #[.val (.ref o0), .val (.int p1), .val (.int p2), .val (.int p3)] [(.int p2), (.int p2)]))
    refine own_st (fun _ => XS.icmpYes X0.here hx rfl (pc0 := 21) (pc' := 26) rfl (hb hby own_dsame_21) rfl (teq (rfl : p2 = p2)).1 (by decide) (by decide)) ?_
    show own_End p e below P (s₁.setTop (mkF m 26 #[.val (.ref o0), .val (.int p1), .val (.int p2), .val (.int p3)] []))
    refine own_st (fun _ => XS.iloadN X0.here hx rfl (hb hby own_dsame_26) rfl) ?_
    show own_End p e below P (s₁.setTop (mkF m 27 #[.val (.ref o0), .val (.int p1), .val (.int p2), .val (.int p3)] [(.int p1)]))
    refine own_st (fun _ => XS.iconst X0.here hx rfl (hb hby own_dsame_27)) ?_
    show own_End p e below P (s₁.setTop (mkF m 28 #[.val (.ref o0), .val (.int p1), .val (.int p2), .val (.int p3)] [(.int (2 : Int32)), (.int p1)]))
    by_cases hc4 : p1 < (2 : Int32)
    · refine own_st (fun _ => XS.icmpYes X0.here hx rfl (pc0 := 28) (pc' := 40) rfl (hb hby own_dsame_28) rfl (tlt hc4).1 (by decide) (by decide)) ?_
      show own_End p e below P (s₁.setTop (mkF m 40 #[.val (.ref o0), .val (.int p1), .val (.int p2), .val (.int p3)] []))
      refine own_st (fun _ => XS.iconst X0.here hx rfl (hb hby own_dsame_40)) ?_
      show own_End p e below P (s₁.setTop (mkF m 41 #[.val (.ref o0), .val (.int p1), .val (.int p2), .val (.int p3)] [(.int (1 : Int32))]))
      exact own_retN X0 hx hlk hP (t := .boolean) (by simp) hrt (hb hby own_dsame_41) (by decide) (by decide) ⟨rfl, N0, e0⟩
    · refine own_st (fun _ => XS.icmpNo X0.here hx rfl (hb hby own_dsame_28) rfl (flt hc4).1) ?_
      show own_End p e below P (s₁.setTop (mkF m 31 #[.val (.ref o0), .val (.int p1), .val (.int p2), .val (.int p3)] []))
      have hnz2 := own_n0 (by decide) hc4
      have hno := own_n1 hc4
      refine own_st (fun _ => XS.aloadN X0.here hx rfl (hb hby own_dsame_31) rfl rfl) ?_
      show own_End p e below P (s₁.setTop (mkF m 32 #[.val (.ref o0), .val (.int p1), .val (.int p2), .val (.int p3)] [(.ref o0)]))
      refine own_st (fun _ => XS.iconst X0.here hx rfl (hb hby own_dsame_32)) ?_
      show own_End p e below P (s₁.setTop (mkF m 33 #[.val (.ref o0), .val (.int p1), .val (.int p2), .val (.int p3)] [(.int (1 : Int32)), (.ref o0)]))
      refine own_iaload X0 hx hZ e0 A_o0 (j := (1 : Int32)) (v := p3) (i := 1) own_o32 (own_mk1 hnz2 hno) (g := (mkF m 33 #[.val (.ref o0), .val (.int p1), .val (.int p2), .val (.int p3)] [(.int (1 : Int32)), (.ref o0)])) rfl rfl (hb hby own_dsame_33) ?_
      show own_End p e below P (s₁.setTop (mkF m 34 #[.val (.ref o0), .val (.int p1), .val (.int p2), .val (.int p3)] [(.int p3)]))
      refine own_st (fun _ => XS.iloadN X0.here hx rfl (hb hby own_dsame_34) rfl) ?_
      show own_End p e below P (s₁.setTop (mkF m 35 #[.val (.ref o0), .val (.int p1), .val (.int p2), .val (.int p3)] [(.int p3), (.int p3)]))
      refine own_st (fun _ => XS.icmpYes X0.here hx rfl (pc0 := 35) (pc' := 40) rfl (hb hby own_dsame_35) rfl (teq (rfl : p3 = p3)).1 (by decide) (by decide)) ?_
      show own_End p e below P (s₁.setTop (mkF m 40 #[.val (.ref o0), .val (.int p1), .val (.int p2), .val (.int p3)] []))
      refine own_st (fun _ => XS.iconst X0.here hx rfl (hb hby own_dsame_40)) ?_
      show own_End p e below P (s₁.setTop (mkF m 41 #[.val (.ref o0), .val (.int p1), .val (.int p2), .val (.int p3)] [(.int (1 : Int32))]))
      exact own_retN X0 hx hlk hP (t := .boolean) (by simp) hrt (hb hby own_dsame_41) (by decide) (by decide) ⟨rfl, N0, e0⟩
theorem own_dstudents_0 : decode prog_17_method_3_code 0 = .ok (.aload_n 0, 1) := by decide +kernel
theorem own_dstudents_1 : decode prog_17_method_3_code 1 = .ok (.getfield 16, 3) := by decide +kernel
theorem own_dstudents_4 : decode prog_17_method_3_code 4 = .ok (.ireturn, 1) := by decide +kernel
theorem own_efstudents (m : MethodId) (o0 : Addr) : entryFrame m #[(.ref o0)] 1 = mkF m 0 #[.val (.ref o0)] [] := by first | (simp [entryFrame, mkF, argsToLocals, Value.category]; done) | rfl
def own_fstudents  : Int32 := (3 : Int32)
set_option maxRecDepth 65536 in
set_option maxHeartbeats 40000000 in
theorem own_mstudents (l : Launch) (Z : State) (a0 : Array Value) (hw : ∀ d ∈ tables_1, d.before a0 Z = true) (ws : List Jvm.Cond) (o0 : Addr)  (h0 : Heap) (n0 : Nat) (Z0 : n0 ≤ h0.size) (F_o0__students : Fld Z h0 o0 "com/example/ruangwaktu/ruangwaktu/exam/Enrolments" "_students" "I" (.int (3 : Int32))) :
    own_Met l Z (⟨"com/example/ruangwaktu/ruangwaktu/exam/Enrolments", "students", "()I"⟩ : MethodName) prog_17_method_3_code 1 (some .int) ws ({ frames := 0, cells := 0, slots := 0, locals := 0 } : Room) #[(.ref o0)] h0 (fun (v : Option Value) (h : Heap) (L : List Loc) => v = some (.int (own_fstudents )) ∧ Fr n0 L ∧ h = h0) := by
  refine own_enter (plainFor_of_name own_pn_com_example_ruangwaktu_ruangwaktu_exam_Enrolments) ?_
  intro p e s m below meth c s₁ P hx hby hml hrt hlk hown hnm hZ X0 e0 hP
  have N0 := Fr.nil n0
  have K0 := Keep.refl h0 []
  have hml' : c.maxLocals = 1 := hml
  refine own_cast (own_efstudents m o0) ?_
  show own_End p e below P (s₁.setTop (mkF m 0 #[.val (.ref o0)] []))
  refine own_st (fun _ => XS.aloadN X0.here hx rfl (hb hby own_dstudents_0) rfl rfl) ?_
  show own_End p e below P (s₁.setTop (mkF m 1 #[.val (.ref o0)] [(.ref o0)]))
  obtain ⟨T1, X1, e1, st1⟩ := getF X0 hx hZ hown (host := "") (Or.inl (hw _ (List.mem_of_getElem? (i := 23) rfl))) Via.refl e0 F_o0__students (g := (mkF m 1 #[.val (.ref o0)] [(.ref o0)])) rfl rfl (hb hby own_dstudents_1)
  refine own_st (fun _ => st1 _) ?_
  show own_End p e below P (T1.setTop (mkF m 4 #[.val (.ref o0)] [(.int (3 : Int32))]))
  refine own_retI X1 hx hlk hP hrt (hb hby own_dstudents_4) (by decide) (by decide) ⟨congrArg (fun z => some (Value.int z)) ?_, N0, e1⟩
  exact (show own_fstudents  = (3 : Int32) from rfl).symm
theorem own_dtotal_0 : decode prog_17_method_4_code 0 = .ok (.aload_n 0, 1) := by decide +kernel
theorem own_dtotal_1 : decode prog_17_method_4_code 1 = .ok (.getfield 13, 3) := by decide +kernel
theorem own_dtotal_4 : decode prog_17_method_4_code 4 = .ok (.aload_n 0, 1) := by decide +kernel
theorem own_dtotal_5 : decode prog_17_method_4_code 5 = .ok (.getfield 16, 3) := by decide +kernel
theorem own_dtotal_8 : decode prog_17_method_4_code 8 = .ok (.iaload, 1) := by decide +kernel
theorem own_dtotal_9 : decode prog_17_method_4_code 9 = .ok (.ireturn, 1) := by decide +kernel
theorem own_eftotal (m : MethodId) (o0 : Addr) : entryFrame m #[(.ref o0)] 1 = mkF m 0 #[.val (.ref o0)] [] := by first | (simp [entryFrame, mkF, argsToLocals, Value.category]; done) | rfl
def own_ftotal (v1 : Int32) (v2 : Int32) (v3 : Int32) : Int32 := v3
set_option maxRecDepth 65536 in
set_option maxHeartbeats 40000000 in
theorem own_mtotal (l : Launch) (Z : State) (a0 : Array Value) (hw : ∀ d ∈ tables_1, d.before a0 Z = true) (ws : List Jvm.Cond) (o0 : Addr) (v1 : Int32) (v2 : Int32) (v3 : Int32) (w_o0__starts : Addr) (h0 : Heap) (n0 : Nat) (Z0 : n0 ≤ h0.size) (F_o0__starts : Fld Z h0 o0 "com/example/ruangwaktu/ruangwaktu/exam/Enrolments" "_starts" "[I" (.ref w_o0__starts)) (F_o0__students : Fld Z h0 o0 "com/example/ruangwaktu/ruangwaktu/exam/Enrolments" "_students" "I" (.int (3 : Int32))) (A_w_o0__starts : own_IA Z h0 w_o0__starts [(0 : Int32), v1, v2, v3]) :
    own_Met l Z (⟨"com/example/ruangwaktu/ruangwaktu/exam/Enrolments", "total", "()I"⟩ : MethodName) prog_17_method_4_code 1 (some .int) ws ({ frames := 0, cells := 0, slots := 0, locals := 0 } : Room) #[(.ref o0)] h0 (fun (v : Option Value) (h : Heap) (L : List Loc) => v = some (.int (own_ftotal v1 v2 v3)) ∧ Fr n0 L ∧ h = h0) := by
  refine own_enter (plainFor_of_name own_pn_com_example_ruangwaktu_ruangwaktu_exam_Enrolments) ?_
  intro p e s m below meth c s₁ P hx hby hml hrt hlk hown hnm hZ X0 e0 hP
  have N0 := Fr.nil n0
  have K0 := Keep.refl h0 []
  have hml' : c.maxLocals = 1 := hml
  refine own_cast (own_eftotal m o0) ?_
  show own_End p e below P (s₁.setTop (mkF m 0 #[.val (.ref o0)] []))
  refine own_st (fun _ => XS.aloadN X0.here hx rfl (hb hby own_dtotal_0) rfl rfl) ?_
  show own_End p e below P (s₁.setTop (mkF m 1 #[.val (.ref o0)] [(.ref o0)]))
  obtain ⟨T1, X1, e1, st1⟩ := getF X0 hx hZ hown (host := "") (Or.inl (hw _ (List.mem_of_getElem? (i := 16) rfl))) Via.refl e0 F_o0__starts (g := (mkF m 1 #[.val (.ref o0)] [(.ref o0)])) rfl rfl (hb hby own_dtotal_1)
  refine own_st (fun _ => st1 _) ?_
  show own_End p e below P (T1.setTop (mkF m 4 #[.val (.ref o0)] [(.ref w_o0__starts)]))
  refine own_st (fun _ => XS.aloadN X1.here hx rfl (hb hby own_dtotal_4) rfl rfl) ?_
  show own_End p e below P (T1.setTop (mkF m 5 #[.val (.ref o0)] [(.ref o0), (.ref w_o0__starts)]))
  obtain ⟨T2, X2, e2, st2⟩ := getF X1 hx hZ hown (host := "") (Or.inl (hw _ (List.mem_of_getElem? (i := 23) rfl))) Via.refl e1 F_o0__students (g := (mkF m 5 #[.val (.ref o0)] [(.ref o0), (.ref w_o0__starts)])) rfl rfl (hb hby own_dtotal_5)
  refine own_st (fun _ => st2 _) ?_
  show own_End p e below P (T2.setTop (mkF m 8 #[.val (.ref o0)] [(.int (3 : Int32)), (.ref w_o0__starts)]))
  refine own_iaload X2 hx hZ e2 A_w_o0__starts (j := (3 : Int32)) (v := v3) (i := 3) (by decide) rfl (g := (mkF m 8 #[.val (.ref o0)] [(.int (3 : Int32)), (.ref w_o0__starts)])) rfl rfl (hb hby own_dtotal_8) ?_
  show own_End p e below P (T2.setTop (mkF m 9 #[.val (.ref o0)] [(.int v3)]))
  refine own_retI X2 hx hlk hP hrt (hb hby own_dtotal_9) (by decide) (by decide) ⟨congrArg (fun z => some (Value.int z)) ?_, N0, e2⟩
  exact (show own_ftotal v1 v2 v3 = v3 from rfl).symm
theorem own_l (p : Int32) : ∃ n : Nat, n ≤ 2 ∧ ((p &&& (255 : Int32)) % (3 : Int32)).toInt = (n : Int) := by
  have e := Jvm.Kit.i32_mask p 255 (k := 8) (by decide) (by decide)
  have t : (3 : Int32).toInt = 3 := by decide
  refine ⟨((p &&& (255 : Int32)) % (3 : Int32)).toInt.toNat, ?_, ?_⟩
  · rw [Jvm.Kit.i32_rem_nonneg (by rw [e]; omega), t]; omega
  · rw [Jvm.Kit.i32_rem_nonneg (by rw [e]; omega), t]; omega
theorem own_tot {u a : Int32} {k : Nat} (h1 : u.toInt = (k : Int)) (h2 : a.toInt = (k : Int)) : u = a := Int32.toInt_inj.mp (h1.trans h2.symm)
theorem own_pd_III__I_464 : parseMethodDescriptor "(III)[I" = some ⟨[.int, .int, .int], some (.array .int)⟩ := by decide +kernel
theorem own_pd_I_V_331 : parseMethodDescriptor "([I)V" = some ⟨[(.array .int)], none⟩ := by decide +kernel
theorem own_pd_I_154 : parseMethodDescriptor "()I" = some ⟨[], some .int⟩ := by decide +kernel
theorem own_pd_I__I_318 : parseMethodDescriptor "(I)[I" = some ⟨[.int], some (.array .int)⟩ := by decide +kernel
theorem own_pd_IIII_Z_554 : parseMethodDescriptor "([IIII)Z" = some ⟨[(.array .int), .int, .int, .int], some .boolean⟩ := by decide +kernel
theorem own_ef0 (m : MethodId) (p0 : Int32) (p1 : Int32) (p2 : Int32) (p3 : Int32) (p4 : Int32) (p5 : Int32) : entryFrame m #[(.int p0), (.int p1), (.int p2), (.int p3), (.int p4), (.int p5)] maxLocals = mkF m 0 #[.val (.int p0), .val (.int p1), .val (.int p2), .val (.int p3), .val (.int p4), .val (.int p5), .unset, .unset, .unset, .unset, .unset, .unset, .unset, .unset] [] := by first | (simp [entryFrame, mkF, argsToLocals, Value.category, maxLocals]; done) | rfl
set_option maxRecDepth 65536 in
set_option maxHeartbeats 40000000 in
theorem own_m0 (l : Launch) (Z : State) (a0 : Array Value) (hw : ∀ d ∈ tables_1, d.before a0 Z = true) (ws : List Jvm.Cond) (p0 : Int32) (p1 : Int32) (p2 : Int32) (p3 : Int32) (p4 : Int32) (p5 : Int32)  (h0 : Heap) (n0 : Nat) (Z0 : n0 ≤ h0.size)  :
    own_Met l Z x code maxLocals ret ws room_1 #[(.int p0), (.int p1), (.int p2), (.int p3), (.int p4), (.int p5)] h0 (fun (v : Option Value) (h : Heap) (L : List Loc) => v = some (.int 1) ∧ Fr n0 L) := by
  refine own_enter (plainFor_of_name own_pn_com_example_ruangwaktu_ruangwaktu_exam_EnrolmentsAddPinLaw) ?_
  intro p e s m below meth c s₁ P hx hby hml hrt hlk hown hnm hZ X0 e0 hP
  have N0 := Fr.nil n0
  have K0 := Keep.refl h0 []
  have hml' : c.maxLocals = 14 := hml
  refine own_cast (own_ef0 m p0 p1 p2 p3 p4 p5) ?_
  show own_End p e below P (s₁.setTop (mkF m 0 #[.val (.int p0), .val (.int p1), .val (.int p2), .val (.int p3), .val (.int p4), .val (.int p5), .unset, .unset, .unset, .unset, .unset, .unset, .unset, .unset] []))
  refine own_st (fun _ => XS.iloadN X0.here hx rfl (hb hby at_0) rfl) ?_
  show own_End p e below P (s₁.setTop (mkF m 1 #[.val (.int p0), .val (.int p1), .val (.int p2), .val (.int p3), .val (.int p4), .val (.int p5), .unset, .unset, .unset, .unset, .unset, .unset, .unset, .unset] [(.int p0)]))
  refine own_st (fun _ => XS.sipush X0.here hx rfl (hb hby at_1)) ?_
  show own_End p e below P (s₁.setTop (mkF m 4 #[.val (.int p0), .val (.int p1), .val (.int p2), .val (.int p3), .val (.int p4), .val (.int p5), .unset, .unset, .unset, .unset, .unset, .unset, .unset, .unset] [(.int (255 : Int32)), (.int p0)]))
  refine own_st (fun _ => XS.iand X0.here hx rfl (hb hby at_4) rfl) ?_
  show own_End p e below P (s₁.setTop (mkF m 5 #[.val (.int p0), .val (.int p1), .val (.int p2), .val (.int p3), .val (.int p4), .val (.int p5), .unset, .unset, .unset, .unset, .unset, .unset, .unset, .unset] [(.int (p0 &&& (255 : Int32)))]))
  refine own_st (fun _ => XS.iconst X0.here hx rfl (hb hby at_5)) ?_
  show own_End p e below P (s₁.setTop (mkF m 6 #[.val (.int p0), .val (.int p1), .val (.int p2), .val (.int p3), .val (.int p4), .val (.int p5), .unset, .unset, .unset, .unset, .unset, .unset, .unset, .unset] [(.int (3 : Int32)), (.int (p0 &&& (255 : Int32)))]))
  refine own_st (fun _ => iremM X0 hx rfl (hb hby at_6) rfl (by decide)) ?_
  show own_End p e below P (s₁.setTop (mkF m 7 #[.val (.int p0), .val (.int p1), .val (.int p2), .val (.int p3), .val (.int p4), .val (.int p5), .unset, .unset, .unset, .unset, .unset, .unset, .unset, .unset] [(.int ((p0 &&& (255 : Int32)) % (3 : Int32)))]))
  obtain ⟨c0, hm0, hl0⟩ := own_l p0
  obtain ⟨l0, e_l0⟩ : ∃ z : Int32, z = ((p0 &&& (255 : Int32)) % (3 : Int32)) := ⟨_, rfl⟩
  rw [← e_l0] at hl0 ⊢
  show own_End p e below P (s₁.setTop (mkF m 7 #[.val (.int p0), .val (.int p1), .val (.int p2), .val (.int p3), .val (.int p4), .val (.int p5), .unset, .unset, .unset, .unset, .unset, .unset, .unset, .unset] [(.int l0)]))
  refine own_st (fun _ => XS.istore X0.here hx rfl (hb hby at_7) rfl (l' := #[.val (.int p0), .val (.int p1), .val (.int p2), .val (.int p3), .val (.int p4), .val (.int p5), .val (.int l0), .unset, .unset, .unset, .unset, .unset, .unset, .unset]) rfl) ?_
  show own_End p e below P (s₁.setTop (mkF m 9 #[.val (.int p0), .val (.int p1), .val (.int p2), .val (.int p3), .val (.int p4), .val (.int p5), .val (.int l0), .unset, .unset, .unset, .unset, .unset, .unset, .unset] []))
  refine own_st (fun _ => XS.iloadN X0.here hx rfl (hb hby at_9) rfl) ?_
  show own_End p e below P (s₁.setTop (mkF m 10 #[.val (.int p0), .val (.int p1), .val (.int p2), .val (.int p3), .val (.int p4), .val (.int p5), .val (.int l0), .unset, .unset, .unset, .unset, .unset, .unset, .unset] [(.int p0)]))
  refine own_st (fun _ => XS.bipush X0.here hx rfl (hb hby at_10)) ?_
  show own_End p e below P (s₁.setTop (mkF m 12 #[.val (.int p0), .val (.int p1), .val (.int p2), .val (.int p3), .val (.int p4), .val (.int p5), .val (.int l0), .unset, .unset, .unset, .unset, .unset, .unset, .unset] [(.int (8 : Int32)), (.int p0)]))
  refine own_st (fun _ => XS.iushr X0.here hx rfl (hb hby at_12) rfl) ?_
  show own_End p e below P (s₁.setTop (mkF m 13 #[.val (.int p0), .val (.int p1), .val (.int p2), .val (.int p3), .val (.int p4), .val (.int p5), .val (.int l0), .unset, .unset, .unset, .unset, .unset, .unset, .unset] [(.int ((p0.toUInt32 >>> ((8 : Int32) &&& 31).toUInt32).toInt32))]))
  refine own_st (fun _ => XS.sipush X0.here hx rfl (hb hby at_13)) ?_
  show own_End p e below P (s₁.setTop (mkF m 16 #[.val (.int p0), .val (.int p1), .val (.int p2), .val (.int p3), .val (.int p4), .val (.int p5), .val (.int l0), .unset, .unset, .unset, .unset, .unset, .unset, .unset] [(.int (255 : Int32)), (.int ((p0.toUInt32 >>> ((8 : Int32) &&& 31).toUInt32).toInt32))]))
  refine own_st (fun _ => XS.iand X0.here hx rfl (hb hby at_16) rfl) ?_
  show own_End p e below P (s₁.setTop (mkF m 17 #[.val (.int p0), .val (.int p1), .val (.int p2), .val (.int p3), .val (.int p4), .val (.int p5), .val (.int l0), .unset, .unset, .unset, .unset, .unset, .unset, .unset] [(.int (((p0.toUInt32 >>> ((8 : Int32) &&& 31).toUInt32).toInt32) &&& (255 : Int32)))]))
  refine own_st (fun _ => XS.iconst X0.here hx rfl (hb hby at_17)) ?_
  show own_End p e below P (s₁.setTop (mkF m 18 #[.val (.int p0), .val (.int p1), .val (.int p2), .val (.int p3), .val (.int p4), .val (.int p5), .val (.int l0), .unset, .unset, .unset, .unset, .unset, .unset, .unset] [(.int (3 : Int32)), (.int (((p0.toUInt32 >>> ((8 : Int32) &&& 31).toUInt32).toInt32) &&& (255 : Int32)))]))
  refine own_st (fun _ => iremM X0 hx rfl (hb hby at_18) rfl (by decide)) ?_
  show own_End p e below P (s₁.setTop (mkF m 19 #[.val (.int p0), .val (.int p1), .val (.int p2), .val (.int p3), .val (.int p4), .val (.int p5), .val (.int l0), .unset, .unset, .unset, .unset, .unset, .unset, .unset] [(.int ((((p0.toUInt32 >>> ((8 : Int32) &&& 31).toUInt32).toInt32) &&& (255 : Int32)) % (3 : Int32)))]))
  obtain ⟨c1, hm1, hl1⟩ := own_l ((p0.toUInt32 >>> ((8 : Int32) &&& 31).toUInt32).toInt32)
  obtain ⟨l1, e_l1⟩ : ∃ z : Int32, z = ((((p0.toUInt32 >>> ((8 : Int32) &&& 31).toUInt32).toInt32) &&& (255 : Int32)) % (3 : Int32)) := ⟨_, rfl⟩
  rw [← e_l1] at hl1 ⊢
  show own_End p e below P (s₁.setTop (mkF m 19 #[.val (.int p0), .val (.int p1), .val (.int p2), .val (.int p3), .val (.int p4), .val (.int p5), .val (.int l0), .unset, .unset, .unset, .unset, .unset, .unset, .unset] [(.int l1)]))
  refine own_st (fun _ => XS.istore X0.here hx rfl (hb hby at_19) rfl (l' := #[.val (.int p0), .val (.int p1), .val (.int p2), .val (.int p3), .val (.int p4), .val (.int p5), .val (.int l0), .val (.int l1), .unset, .unset, .unset, .unset, .unset, .unset]) rfl) ?_
  show own_End p e below P (s₁.setTop (mkF m 21 #[.val (.int p0), .val (.int p1), .val (.int p2), .val (.int p3), .val (.int p4), .val (.int p5), .val (.int l0), .val (.int l1), .unset, .unset, .unset, .unset, .unset, .unset] []))
  refine own_st (fun _ => XS.iloadN X0.here hx rfl (hb hby at_21) rfl) ?_
  show own_End p e below P (s₁.setTop (mkF m 22 #[.val (.int p0), .val (.int p1), .val (.int p2), .val (.int p3), .val (.int p4), .val (.int p5), .val (.int l0), .val (.int l1), .unset, .unset, .unset, .unset, .unset, .unset] [(.int p0)]))
  refine own_st (fun _ => XS.bipush X0.here hx rfl (hb hby at_22)) ?_
  show own_End p e below P (s₁.setTop (mkF m 24 #[.val (.int p0), .val (.int p1), .val (.int p2), .val (.int p3), .val (.int p4), .val (.int p5), .val (.int l0), .val (.int l1), .unset, .unset, .unset, .unset, .unset, .unset] [(.int (16 : Int32)), (.int p0)]))
  refine own_st (fun _ => XS.iushr X0.here hx rfl (hb hby at_24) rfl) ?_
  show own_End p e below P (s₁.setTop (mkF m 25 #[.val (.int p0), .val (.int p1), .val (.int p2), .val (.int p3), .val (.int p4), .val (.int p5), .val (.int l0), .val (.int l1), .unset, .unset, .unset, .unset, .unset, .unset] [(.int ((p0.toUInt32 >>> ((16 : Int32) &&& 31).toUInt32).toInt32))]))
  refine own_st (fun _ => XS.sipush X0.here hx rfl (hb hby at_25)) ?_
  show own_End p e below P (s₁.setTop (mkF m 28 #[.val (.int p0), .val (.int p1), .val (.int p2), .val (.int p3), .val (.int p4), .val (.int p5), .val (.int l0), .val (.int l1), .unset, .unset, .unset, .unset, .unset, .unset] [(.int (255 : Int32)), (.int ((p0.toUInt32 >>> ((16 : Int32) &&& 31).toUInt32).toInt32))]))
  refine own_st (fun _ => XS.iand X0.here hx rfl (hb hby at_28) rfl) ?_
  show own_End p e below P (s₁.setTop (mkF m 29 #[.val (.int p0), .val (.int p1), .val (.int p2), .val (.int p3), .val (.int p4), .val (.int p5), .val (.int l0), .val (.int l1), .unset, .unset, .unset, .unset, .unset, .unset] [(.int (((p0.toUInt32 >>> ((16 : Int32) &&& 31).toUInt32).toInt32) &&& (255 : Int32)))]))
  refine own_st (fun _ => XS.iconst X0.here hx rfl (hb hby at_29)) ?_
  show own_End p e below P (s₁.setTop (mkF m 30 #[.val (.int p0), .val (.int p1), .val (.int p2), .val (.int p3), .val (.int p4), .val (.int p5), .val (.int l0), .val (.int l1), .unset, .unset, .unset, .unset, .unset, .unset] [(.int (3 : Int32)), (.int (((p0.toUInt32 >>> ((16 : Int32) &&& 31).toUInt32).toInt32) &&& (255 : Int32)))]))
  refine own_st (fun _ => iremM X0 hx rfl (hb hby at_30) rfl (by decide)) ?_
  show own_End p e below P (s₁.setTop (mkF m 31 #[.val (.int p0), .val (.int p1), .val (.int p2), .val (.int p3), .val (.int p4), .val (.int p5), .val (.int l0), .val (.int l1), .unset, .unset, .unset, .unset, .unset, .unset] [(.int ((((p0.toUInt32 >>> ((16 : Int32) &&& 31).toUInt32).toInt32) &&& (255 : Int32)) % (3 : Int32)))]))
  obtain ⟨c2, hm2, hl2⟩ := own_l ((p0.toUInt32 >>> ((16 : Int32) &&& 31).toUInt32).toInt32)
  obtain ⟨l2, e_l2⟩ : ∃ z : Int32, z = ((((p0.toUInt32 >>> ((16 : Int32) &&& 31).toUInt32).toInt32) &&& (255 : Int32)) % (3 : Int32)) := ⟨_, rfl⟩
  rw [← e_l2] at hl2 ⊢
  show own_End p e below P (s₁.setTop (mkF m 31 #[.val (.int p0), .val (.int p1), .val (.int p2), .val (.int p3), .val (.int p4), .val (.int p5), .val (.int l0), .val (.int l1), .unset, .unset, .unset, .unset, .unset, .unset] [(.int l2)]))
  refine own_st (fun _ => XS.istore X0.here hx rfl (hb hby at_31) rfl (l' := #[.val (.int p0), .val (.int p1), .val (.int p2), .val (.int p3), .val (.int p4), .val (.int p5), .val (.int l0), .val (.int l1), .val (.int l2), .unset, .unset, .unset, .unset, .unset]) rfl) ?_
  show own_End p e below P (s₁.setTop (mkF m 33 #[.val (.int p0), .val (.int p1), .val (.int p2), .val (.int p3), .val (.int p4), .val (.int p5), .val (.int l0), .val (.int l1), .val (.int l2), .unset, .unset, .unset, .unset, .unset] []))
  refine own_st (fun _ => XS.iload X0.here hx rfl (hb hby at_33) rfl) ?_
  show own_End p e below P (s₁.setTop (mkF m 35 #[.val (.int p0), .val (.int p1), .val (.int p2), .val (.int p3), .val (.int p4), .val (.int p5), .val (.int l0), .val (.int l1), .val (.int l2), .unset, .unset, .unset, .unset, .unset] [(.int l0)]))
  refine own_st (fun _ => XS.iloadN X0.here hx rfl (hb hby at_35) rfl) ?_
  show own_End p e below P (s₁.setTop (mkF m 36 #[.val (.int p0), .val (.int p1), .val (.int p2), .val (.int p3), .val (.int p4), .val (.int p5), .val (.int l0), .val (.int l1), .val (.int l2), .unset, .unset, .unset, .unset, .unset] [(.int p1), (.int l0)]))
  refine own_st (fun _ => XS.iloadN X0.here hx rfl (hb hby at_36) rfl) ?_
  show own_End p e below P (s₁.setTop (mkF m 37 #[.val (.int p0), .val (.int p1), .val (.int p2), .val (.int p3), .val (.int p4), .val (.int p5), .val (.int l0), .val (.int l1), .val (.int l2), .unset, .unset, .unset, .unset, .unset] [(.int p2), (.int p1), (.int l0)]))
  refine own_callS X0 hx hZ (y := (⟨"com/example/ruangwaktu/ruangwaktu/exam/EnrolmentsAddPinLaw", "make", "(III)[I"⟩ : MethodName)) hown (hw _ (List.mem_of_getElem? (i := 0) rfl)) (hw _ (List.mem_of_getElem? (i := 1) rfl)) (hw _ (List.mem_of_getElem? (i := 2) rfl)) (hw _ (List.mem_of_getElem? (i := 3) rfl)) (by decide) (own_mmake l Z a0 hw [] l0 p1 p2  h0 n0 (Nat.le_trans Z0 K0.1) ) 0 (by decide) (by decide) e0 (by decide) (by decide) (g := (mkF m 37 #[.val (.int p0), .val (.int p1), .val (.int p2), .val (.int p3), .val (.int p4), .val (.int p5), .val (.int l0), .val (.int l1), .val (.int l2), .unset, .unset, .unset, .unset, .unset] [(.int p2), (.int p1), (.int l0)])) rfl (by rw [hml']; rfl) (argsL := [(.int l0), (.int p1), (.int p2)]) (rest := []) rfl (lenOf own_pd_III__I_464 rfl) rfl (by show 2 * 0 + _ ≤ _; exact Nat.le_of_eq rfl) (hb hby at_37) (fun r1 T1 L1 X1 hQ1 => ?_)
  obtain ⟨br_1, rfl, Nq1, Kq1, szq_br_1, low_br_1, f0_1⟩ := hQ1
  have N1 := Fr.app N0 Nq1
  have sz_br_1 := Nat.le_trans K0.1 szq_br_1
  have K1 := Keep.trans K0 Kq1 all0
  show own_End p e below P (T1.setTop (mkF m 40 #[.val (.int p0), .val (.int p1), .val (.int p2), .val (.int p3), .val (.int p4), .val (.int p5), .val (.int l0), .val (.int l1), .val (.int l2), .unset, .unset, .unset, .unset, .unset] [(.ref br_1)]))
  refine own_st (fun _ => XS.astore X1.here hx rfl (hb hby at_40) rfl rfl (l' := #[.val (.int p0), .val (.int p1), .val (.int p2), .val (.int p3), .val (.int p4), .val (.int p5), .val (.int l0), .val (.int l1), .val (.int l2), .val (.ref br_1), .unset, .unset, .unset, .unset]) rfl) ?_
  show own_End p e below P (T1.setTop (mkF m 42 #[.val (.int p0), .val (.int p1), .val (.int p2), .val (.int p3), .val (.int p4), .val (.int p5), .val (.int l0), .val (.int l1), .val (.int l2), .val (.ref br_1), .unset, .unset, .unset, .unset] []))
  refine own_st (fun _ => XS.iload X1.here hx rfl (hb hby at_42) rfl) ?_
  show own_End p e below P (T1.setTop (mkF m 44 #[.val (.int p0), .val (.int p1), .val (.int p2), .val (.int p3), .val (.int p4), .val (.int p5), .val (.int l0), .val (.int l1), .val (.int l2), .val (.ref br_1), .unset, .unset, .unset, .unset] [(.int l1)]))
  refine own_st (fun _ => XS.iloadN X1.here hx rfl (hb hby at_44) rfl) ?_
  show own_End p e below P (T1.setTop (mkF m 45 #[.val (.int p0), .val (.int p1), .val (.int p2), .val (.int p3), .val (.int p4), .val (.int p5), .val (.int l0), .val (.int l1), .val (.int l2), .val (.ref br_1), .unset, .unset, .unset, .unset] [(.int p3), (.int l1)]))
  refine own_st (fun _ => XS.iload X1.here hx rfl (hb hby at_45) rfl) ?_
  show own_End p e below P (T1.setTop (mkF m 47 #[.val (.int p0), .val (.int p1), .val (.int p2), .val (.int p3), .val (.int p4), .val (.int p5), .val (.int l0), .val (.int l1), .val (.int l2), .val (.ref br_1), .unset, .unset, .unset, .unset] [(.int p4), (.int p3), (.int l1)]))
  refine own_callS X1 hx hZ (y := (⟨"com/example/ruangwaktu/ruangwaktu/exam/EnrolmentsAddPinLaw", "make", "(III)[I"⟩ : MethodName)) hown (hw _ (List.mem_of_getElem? (i := 0) rfl)) (hw _ (List.mem_of_getElem? (i := 1) rfl)) (hw _ (List.mem_of_getElem? (i := 2) rfl)) (hw _ (List.mem_of_getElem? (i := 3) rfl)) (by decide) (own_mmake l Z a0 hw [] l1 p3 p4  T1.heap n0 (Nat.le_trans Z0 K1.1) ) 0 (by decide) (by decide) rfl (by decide) (by decide) (g := (mkF m 47 #[.val (.int p0), .val (.int p1), .val (.int p2), .val (.int p3), .val (.int p4), .val (.int p5), .val (.int l0), .val (.int l1), .val (.int l2), .val (.ref br_1), .unset, .unset, .unset, .unset] [(.int p4), (.int p3), (.int l1)])) rfl (by rw [hml']; rfl) (argsL := [(.int l1), (.int p3), (.int p4)]) (rest := []) rfl (lenOf own_pd_III__I_464 rfl) rfl (by show 2 * 0 + _ ≤ _; exact Nat.le_of_eq rfl) (hb hby at_47) (fun r2 T2 L2 X2 hQ2 => ?_)
  obtain ⟨br_2, rfl, Nq2, Kq2, szq_br_2, low_br_2, f0_2⟩ := hQ2
  have N2 := Fr.app N1 Nq2
  have ne3 : br_1 ≠ br_2 := Nat.ne_of_lt (Nat.lt_of_lt_of_le f0_1.lt szq_br_2)
  have sz_br_2 := Nat.le_trans K1.1 szq_br_2
  have K2 := Keep.trans K1 Kq2 all0
  show own_End p e below P (T2.setTop (mkF m 50 #[.val (.int p0), .val (.int p1), .val (.int p2), .val (.int p3), .val (.int p4), .val (.int p5), .val (.int l0), .val (.int l1), .val (.int l2), .val (.ref br_1), .unset, .unset, .unset, .unset] [(.ref br_2)]))
  refine own_st (fun _ => XS.astore X2.here hx rfl (hb hby at_50) rfl rfl (l' := #[.val (.int p0), .val (.int p1), .val (.int p2), .val (.int p3), .val (.int p4), .val (.int p5), .val (.int l0), .val (.int l1), .val (.int l2), .val (.ref br_1), .val (.ref br_2), .unset, .unset, .unset]) rfl) ?_
  show own_End p e below P (T2.setTop (mkF m 52 #[.val (.int p0), .val (.int p1), .val (.int p2), .val (.int p3), .val (.int p4), .val (.int p5), .val (.int l0), .val (.int l1), .val (.int l2), .val (.ref br_1), .val (.ref br_2), .unset, .unset, .unset] []))
  refine own_st (fun _ => XS.iload X2.here hx rfl (hb hby at_52) rfl) ?_
  show own_End p e below P (T2.setTop (mkF m 54 #[.val (.int p0), .val (.int p1), .val (.int p2), .val (.int p3), .val (.int p4), .val (.int p5), .val (.int l0), .val (.int l1), .val (.int l2), .val (.ref br_1), .val (.ref br_2), .unset, .unset, .unset] [(.int l2)]))
  refine own_st (fun _ => XS.iload X2.here hx rfl (hb hby at_54) rfl) ?_
  show own_End p e below P (T2.setTop (mkF m 56 #[.val (.int p0), .val (.int p1), .val (.int p2), .val (.int p3), .val (.int p4), .val (.int p5), .val (.int l0), .val (.int l1), .val (.int l2), .val (.ref br_1), .val (.ref br_2), .unset, .unset, .unset] [(.int p5), (.int l2)]))
  refine own_st (fun _ => XS.iload X2.here hx rfl (hb hby at_56) rfl) ?_
  show own_End p e below P (T2.setTop (mkF m 58 #[.val (.int p0), .val (.int p1), .val (.int p2), .val (.int p3), .val (.int p4), .val (.int p5), .val (.int l0), .val (.int l1), .val (.int l2), .val (.ref br_1), .val (.ref br_2), .unset, .unset, .unset] [(.int p5), (.int p5), (.int l2)]))
  refine own_st (fun _ => XS.iconst X2.here hx rfl (hb hby at_58)) ?_
  show own_End p e below P (T2.setTop (mkF m 59 #[.val (.int p0), .val (.int p1), .val (.int p2), .val (.int p3), .val (.int p4), .val (.int p5), .val (.int l0), .val (.int l1), .val (.int l2), .val (.ref br_1), .val (.ref br_2), .unset, .unset, .unset] [(.int (-1 : Int32)), (.int p5), (.int p5), (.int l2)]))
  refine own_st (fun _ => XS.ixor X2.here hx rfl (hb hby at_59) rfl) ?_
  show own_End p e below P (T2.setTop (mkF m 60 #[.val (.int p0), .val (.int p1), .val (.int p2), .val (.int p3), .val (.int p4), .val (.int p5), .val (.int l0), .val (.int l1), .val (.int l2), .val (.ref br_1), .val (.ref br_2), .unset, .unset, .unset] [(.int (p5 ^^^ (-1 : Int32))), (.int p5), (.int l2)]))
  obtain ⟨f, e_f⟩ : ∃ z : Int32, z = (p5 ^^^ (-1 : Int32)) := ⟨_, rfl⟩
  rw [← e_f]
  show own_End p e below P (T2.setTop (mkF m 60 #[.val (.int p0), .val (.int p1), .val (.int p2), .val (.int p3), .val (.int p4), .val (.int p5), .val (.int l0), .val (.int l1), .val (.int l2), .val (.ref br_1), .val (.ref br_2), .unset, .unset, .unset] [(.int f), (.int p5), (.int l2)]))
  have len0 : (own_mk l0 p1 p2).length = c0 := own_mk_len hl0 hm0
  have len1 : (own_mk l1 p3 p4).length = c1 := own_mk_len hl1 hm1
  have len2 : (own_mk l2 p5 f).length = c2 := own_mk_len hl2 hm2
  refine own_callS X2 hx hZ (y := (⟨"com/example/ruangwaktu/ruangwaktu/exam/EnrolmentsAddPinLaw", "make", "(III)[I"⟩ : MethodName)) hown (hw _ (List.mem_of_getElem? (i := 0) rfl)) (hw _ (List.mem_of_getElem? (i := 1) rfl)) (hw _ (List.mem_of_getElem? (i := 2) rfl)) (hw _ (List.mem_of_getElem? (i := 3) rfl)) (by decide) (own_mmake l Z a0 hw [] l2 p5 f  T2.heap n0 (Nat.le_trans Z0 K2.1) ) 0 (by decide) (by decide) rfl (by decide) (by decide) (g := (mkF m 60 #[.val (.int p0), .val (.int p1), .val (.int p2), .val (.int p3), .val (.int p4), .val (.int p5), .val (.int l0), .val (.int l1), .val (.int l2), .val (.ref br_1), .val (.ref br_2), .unset, .unset, .unset] [(.int f), (.int p5), (.int l2)])) rfl (by rw [hml']; rfl) (argsL := [(.int l2), (.int p5), (.int f)]) (rest := []) rfl (lenOf own_pd_III__I_464 rfl) rfl (by show 2 * 0 + _ ≤ _; exact Nat.le_of_eq rfl) (hb hby at_60) (fun r4 T4 L4 X4 hQ4 => ?_)
  obtain ⟨br_4, rfl, Nq4, Kq4, szq_br_4, low_br_4, f0_4⟩ := hQ4
  have N4 := Fr.app N2 Nq4
  have G5 := (f0_1.keep Kq2 nin0)
  have ne6 : br_1 ≠ br_4 := Nat.ne_of_lt (Nat.lt_of_lt_of_le G5.lt szq_br_4)
  have ne7 : br_2 ≠ br_4 := Nat.ne_of_lt (Nat.lt_of_lt_of_le f0_2.lt szq_br_4)
  have sz_br_4 := Nat.le_trans K2.1 szq_br_4
  have K4 := Keep.trans K2 Kq4 all0
  show own_End p e below P (T4.setTop (mkF m 63 #[.val (.int p0), .val (.int p1), .val (.int p2), .val (.int p3), .val (.int p4), .val (.int p5), .val (.int l0), .val (.int l1), .val (.int l2), .val (.ref br_1), .val (.ref br_2), .unset, .unset, .unset] [(.ref br_4)]))
  refine own_st (fun _ => XS.astore X4.here hx rfl (hb hby at_63) rfl rfl (l' := #[.val (.int p0), .val (.int p1), .val (.int p2), .val (.int p3), .val (.int p4), .val (.int p5), .val (.int l0), .val (.int l1), .val (.int l2), .val (.ref br_1), .val (.ref br_2), .val (.ref br_4), .unset, .unset]) rfl) ?_
  show own_End p e below P (T4.setTop (mkF m 65 #[.val (.int p0), .val (.int p1), .val (.int p2), .val (.int p3), .val (.int p4), .val (.int p5), .val (.int l0), .val (.int l1), .val (.int l2), .val (.ref br_1), .val (.ref br_2), .val (.ref br_4), .unset, .unset] []))
  obtain ⟨T8, h8, X8, e8, E8, A8, D8, -, st8⟩ := newO X4 hx hZ hown (hw _ (List.mem_of_getElem? (i := 5) rfl)) (hw _ (List.mem_of_getElem? (i := 6) rfl)) (hw _ (List.mem_of_getElem? (i := 7) rfl)) rfl (g := (mkF m 65 #[.val (.int p0), .val (.int p1), .val (.int p2), .val (.int p3), .val (.int p4), .val (.int p5), .val (.int l0), .val (.int l1), .val (.int l2), .val (.ref br_1), .val (.ref br_2), .val (.ref br_4), .unset, .unset] [])) rfl (hb hby at_65) (by decide) (by decide)
  obtain ⟨b8, g8⟩ : ∃ z, z = T4.heap.size := ⟨_, rfl⟩
  rw [← g8] at A8 D8 st8
  have G10 := (G5.keep Kq4 nin0)
  have ne9 : br_1 ≠ b8 := Nat.ne_of_lt (Nat.lt_of_lt_of_le G10.lt (Nat.le_of_eq g8.symm))
  have G12 := (f0_2.keep Kq4 nin0)
  have ne11 : br_2 ≠ b8 := Nat.ne_of_lt (Nat.lt_of_lt_of_le G12.lt (Nat.le_of_eq g8.symm))
  have ne13 : br_4 ≠ b8 := Nat.ne_of_lt (Nat.lt_of_lt_of_le f0_4.lt (Nat.le_of_eq g8.symm))
  have low_b8 : n0 ≤ b8 := Nat.le_trans (Nat.le_trans Z0 K4.1) (Nat.le_of_eq g8.symm)
  have sz_b8 : h0.size ≤ b8 := Nat.le_trans K4.1 (Nat.le_of_eq g8.symm)
  have K8 := Keep.ext K4 E8
  have F_b8__exams : Fld Z h8 b8 "com/example/ruangwaktu/ruangwaktu/exam/Enrolments" "_exams" "[I" .null := D8 (Or.inr (hw _ (List.mem_of_getElem? (i := 15) rfl))) (ty := (.array .int)) (by decide)
  have F_b8__starts : Fld Z h8 b8 "com/example/ruangwaktu/ruangwaktu/exam/Enrolments" "_starts" "[I" .null := D8 (Or.inr (hw _ (List.mem_of_getElem? (i := 17) rfl))) (ty := (.array .int)) (by decide)
  have F_b8__students : Fld Z h8 b8 "com/example/ruangwaktu/ruangwaktu/exam/Enrolments" "_students" "I" (.int (0 : Int32)) := D8 (Or.inl (hw _ (List.mem_of_getElem? (i := 24) rfl))) (ty := .int) (by decide)
  refine own_st (fun _ => st8 _) ?_
  show own_End p e below P (T8.setTop (mkF m 68 #[.val (.int p0), .val (.int p1), .val (.int p2), .val (.int p3), .val (.int p4), .val (.int p5), .val (.int l0), .val (.int l1), .val (.int l2), .val (.ref br_1), .val (.ref br_2), .val (.ref br_4), .unset, .unset] [(.ref b8)]))
  refine own_st (fun _ => XS.dup X8.here hx rfl (hb hby at_68) rfl rfl) ?_
  show own_End p e below P (T8.setTop (mkF m 69 #[.val (.int p0), .val (.int p1), .val (.int p2), .val (.int p3), .val (.int p4), .val (.int p5), .val (.int l0), .val (.int l1), .val (.int l2), .val (.ref br_1), .val (.ref br_2), .val (.ref br_4), .unset, .unset] [(.ref b8), (.ref b8)]))
  refine own_st (fun _ => XS.iconst X8.here hx rfl (hb hby at_69)) ?_
  show own_End p e below P (T8.setTop (mkF m 70 #[.val (.int p0), .val (.int p1), .val (.int p2), .val (.int p3), .val (.int p4), .val (.int p5), .val (.int l0), .val (.int l1), .val (.int l2), .val (.ref br_1), .val (.ref br_2), .val (.ref br_4), .unset, .unset] [(.int (3 : Int32)), (.ref b8), (.ref b8)]))
  refine own_st (fun _ => XS.iload X8.here hx rfl (hb hby at_70) rfl) ?_
  show own_End p e below P (T8.setTop (mkF m 72 #[.val (.int p0), .val (.int p1), .val (.int p2), .val (.int p3), .val (.int p4), .val (.int p5), .val (.int l0), .val (.int l1), .val (.int l2), .val (.ref br_1), .val (.ref br_2), .val (.ref br_4), .unset, .unset] [(.int l0), (.int (3 : Int32)), (.ref b8), (.ref b8)]))
  refine own_st (fun _ => XS.iload X8.here hx rfl (hb hby at_72) rfl) ?_
  show own_End p e below P (T8.setTop (mkF m 74 #[.val (.int p0), .val (.int p1), .val (.int p2), .val (.int p3), .val (.int p4), .val (.int p5), .val (.int l0), .val (.int l1), .val (.int l2), .val (.ref br_1), .val (.ref br_2), .val (.ref br_4), .unset, .unset] [(.int l1), (.int l0), (.int (3 : Int32)), (.ref b8), (.ref b8)]))
  refine own_st (fun _ => XS.iadd X8.here hx rfl (hb hby at_74) rfl) ?_
  show own_End p e below P (T8.setTop (mkF m 75 #[.val (.int p0), .val (.int p1), .val (.int p2), .val (.int p3), .val (.int p4), .val (.int p5), .val (.int l0), .val (.int l1), .val (.int l2), .val (.ref br_1), .val (.ref br_2), .val (.ref br_4), .unset, .unset] [(.int (l0 + l1)), (.int (3 : Int32)), (.ref b8), (.ref b8)]))
  refine own_st (fun _ => XS.iload X8.here hx rfl (hb hby at_75) rfl) ?_
  show own_End p e below P (T8.setTop (mkF m 77 #[.val (.int p0), .val (.int p1), .val (.int p2), .val (.int p3), .val (.int p4), .val (.int p5), .val (.int l0), .val (.int l1), .val (.int l2), .val (.ref br_1), .val (.ref br_2), .val (.ref br_4), .unset, .unset] [(.int l2), (.int (l0 + l1)), (.int (3 : Int32)), (.ref b8), (.ref b8)]))
  refine own_st (fun _ => XS.iadd X8.here hx rfl (hb hby at_77) rfl) ?_
  show own_End p e below P (T8.setTop (mkF m 78 #[.val (.int p0), .val (.int p1), .val (.int p2), .val (.int p3), .val (.int p4), .val (.int p5), .val (.int l0), .val (.int l1), .val (.int l2), .val (.ref br_1), .val (.ref br_2), .val (.ref br_4), .unset, .unset] [(.int ((l0 + l1) + l2)), (.int (3 : Int32)), (.ref b8), (.ref b8)]))
  refine own_callI X8 hx hZ (y := (⟨"com/example/ruangwaktu/ruangwaktu/exam/Enrolments", "<init>", "(II)V"⟩ : MethodName)) rfl hown (hw _ (List.mem_of_getElem? (i := 8) rfl)) (hw _ (List.mem_of_getElem? (i := 9) rfl)) (hw _ (List.mem_of_getElem? (i := 7) rfl)) (hw _ (List.mem_of_getElem? (i := 10) rfl)) (by decide) (own_minit l Z a0 hw [] b8 ((l0 + l1) + l2) (c0 + c1 + c2) h8 n0 (Nat.le_trans Z0 K8.1) A8 F_b8__exams F_b8__starts F_b8__students low_b8 (own_add32 (own_add32 hl0 hl1 (by omega)) hl2 (by omega)) (by omega)) 1 (by decide) (by decide) e8 (by decide) (by decide) (g := (mkF m 78 #[.val (.int p0), .val (.int p1), .val (.int p2), .val (.int p3), .val (.int p4), .val (.int p5), .val (.int l0), .val (.int l1), .val (.int l2), .val (.ref br_1), .val (.ref br_2), .val (.ref br_4), .unset, .unset] [(.int ((l0 + l1) + l2)), (.int (3 : Int32)), (.ref b8), (.ref b8)])) rfl (by rw [hml']; rfl) (a := b8) (argsL := [(.int (3 : Int32)), (.int ((l0 + l1) + l2))]) (rest := [(.ref b8)]) rfl (lenOf own_pd_II_V_313 rfl) rfl (by show 2 * 0 + _ ≤ _; exact Nat.le_of_eq rfl) (hb hby at_78) (fun r14 T14 L14 X14 hQ14 => ?_)
  obtain ⟨b2_14, b7_14, rfl, Nq14, Kq14, szq_b2_14, low_b2_14, szq_b7_14, low_b7_14, ne_b2_14_b7_14, f0_14, f1_14, f2_14, f3_14, f4_14, f5_14⟩ := hQ14
  have N14 := Fr.app N4 Nq14
  have ne15 : b8 ≠ b2_14 := Nat.ne_of_lt (Nat.lt_of_lt_of_le A8.lt szq_b2_14)
  have ne16 : b8 ≠ b7_14 := Nat.ne_of_lt (Nat.lt_of_lt_of_le A8.lt szq_b7_14)
  have G17 := (G10.ext E8)
  have ne18 : br_1 ≠ b2_14 := Nat.ne_of_lt (Nat.lt_of_lt_of_le G17.lt szq_b2_14)
  have ne19 : br_1 ≠ b7_14 := Nat.ne_of_lt (Nat.lt_of_lt_of_le G17.lt szq_b7_14)
  have G20 := (G12.ext E8)
  have ne21 : br_2 ≠ b2_14 := Nat.ne_of_lt (Nat.lt_of_lt_of_le G20.lt szq_b2_14)
  have ne22 : br_2 ≠ b7_14 := Nat.ne_of_lt (Nat.lt_of_lt_of_le G20.lt szq_b7_14)
  have G23 := (f0_4.ext E8)
  have ne24 : br_4 ≠ b2_14 := Nat.ne_of_lt (Nat.lt_of_lt_of_le G23.lt szq_b2_14)
  have ne25 : br_4 ≠ b7_14 := Nat.ne_of_lt (Nat.lt_of_lt_of_le G23.lt szq_b7_14)
  have sz_b2_14 := Nat.le_trans K8.1 szq_b2_14
  have sz_b7_14 := Nat.le_trans K8.1 szq_b7_14
  have K14 := Keep.trans K8 Kq14 (allS (Or.inr sz_b8) all0)
  show own_End p e below P (T14.setTop (mkF m 81 #[.val (.int p0), .val (.int p1), .val (.int p2), .val (.int p3), .val (.int p4), .val (.int p5), .val (.int l0), .val (.int l1), .val (.int l2), .val (.ref br_1), .val (.ref br_2), .val (.ref br_4), .unset, .unset] [(.ref b8)]))
  refine own_st (fun _ => XS.astore X14.here hx rfl (hb hby at_81) rfl rfl (l' := #[.val (.int p0), .val (.int p1), .val (.int p2), .val (.int p3), .val (.int p4), .val (.int p5), .val (.int l0), .val (.int l1), .val (.int l2), .val (.ref br_1), .val (.ref br_2), .val (.ref br_4), .val (.ref b8), .unset]) rfl) ?_
  show own_End p e below P (T14.setTop (mkF m 83 #[.val (.int p0), .val (.int p1), .val (.int p2), .val (.int p3), .val (.int p4), .val (.int p5), .val (.int l0), .val (.int l1), .val (.int l2), .val (.ref br_1), .val (.ref br_2), .val (.ref br_4), .val (.ref b8), .unset] []))
  refine own_st (fun _ => XS.aload X14.here hx rfl (hb hby at_83) rfl rfl) ?_
  show own_End p e below P (T14.setTop (mkF m 85 #[.val (.int p0), .val (.int p1), .val (.int p2), .val (.int p3), .val (.int p4), .val (.int p5), .val (.int l0), .val (.int l1), .val (.int l2), .val (.ref br_1), .val (.ref br_2), .val (.ref br_4), .val (.ref b8), .unset] [(.ref b8)]))
  refine own_st (fun _ => XS.aload X14.here hx rfl (hb hby at_85) rfl rfl) ?_
  show own_End p e below P (T14.setTop (mkF m 87 #[.val (.int p0), .val (.int p1), .val (.int p2), .val (.int p3), .val (.int p4), .val (.int p5), .val (.int l0), .val (.int l1), .val (.int l2), .val (.ref br_1), .val (.ref br_2), .val (.ref br_4), .val (.ref b8), .unset] [(.ref br_1), (.ref b8)]))
  have G27 := (G17.keep Kq14 (ninS ne9 nin0))
  refine own_callV X14 hx hZ (y := (⟨"com/example/ruangwaktu/ruangwaktu/exam/Enrolments", "add", "([I)V"⟩ : MethodName)) (z := (⟨"com/example/ruangwaktu/ruangwaktu/exam/Enrolments", "add", "([I)V"⟩ : MethodName)) hown (hw _ (List.mem_of_getElem? (i := 18) rfl)) (hw _ (List.mem_of_getElem? (i := 19) rfl)) (notFace_of_selects (args := #[]) (mvT hZ (hw _ (List.mem_of_getElem? (i := 21) rfl)))) (hw _ (List.mem_of_getElem? (i := 21) rfl)) (hw _ (List.mem_of_getElem? (i := 20) rfl)) (hw _ (List.mem_of_getElem? (i := 7) rfl)) (hw _ (List.mem_of_getElem? (i := 22) rfl)) (by decide) f0_14 (own_madd0 l Z a0 hw [] b8 br_1 (own_mk l0 p1 p2) ([] : List Int32) (c0 + c1 + c2) b2_14 b7_14 T14.heap n0 (Nat.le_trans Z0 K14.1) f0_14 f1_14 f2_14 f3_14 G27 f4_14 f5_14 low_b8 low_b2_14 low_b7_14 ne15 ne16 ne_b2_14_b7_14 ne9 ne18 ne19 own_z32 (by omega)) 0 (by decide) (by decide) rfl (by decide) (by decide) (g := (mkF m 87 #[.val (.int p0), .val (.int p1), .val (.int p2), .val (.int p3), .val (.int p4), .val (.int p5), .val (.int l0), .val (.int l1), .val (.int l2), .val (.ref br_1), .val (.ref br_2), .val (.ref br_4), .val (.ref b8), .unset] [(.ref br_1), (.ref b8)])) rfl (by rw [hml']; rfl) (argsL := [(.ref br_1)]) (rest := []) rfl (lenOf own_pd_I_V_331 rfl) rfl (by show 2 * 0 + _ ≤ _; exact Nat.le_of_eq rfl) (hb hby at_87) (fun r26 T26 L26 X26 hQ26 => ?_)
  obtain ⟨rfl, Nq26, Kq26, f0_26, f1_26, f2_26, f3_26, f4_26, f5_26⟩ := hQ26
  have N26 := Fr.app N14 Nq26
  have K26 := Keep.trans K14 Kq26 (allS (Or.inr sz_b8) (allS (Or.inr sz_b2_14) (allS (Or.inr sz_b7_14) all0)))
  show own_End p e below P (T26.setTop (mkF m 90 #[.val (.int p0), .val (.int p1), .val (.int p2), .val (.int p3), .val (.int p4), .val (.int p5), .val (.int l0), .val (.int l1), .val (.int l2), .val (.ref br_1), .val (.ref br_2), .val (.ref br_4), .val (.ref b8), .unset] []))
  have hv1 : ((0 : Int32) + (Int32.ofNat (own_mk l0 p1 p2).length)).toInt = ((([] : List Int32) ++ (own_mk l0 p1 p2)).length : Int) := by
    rw [own_add32 own_z32 (own_ofn (by omega)) (by simp; omega)]; simp; try omega
  obtain ⟨u1, e_u1⟩ : ∃ z : Int32, z = ((0 : Int32) + (Int32.ofNat (own_mk l0 p1 p2).length)) := ⟨_, rfl⟩
  rw [← e_u1] at hv1
  have Au28 : own_IA Z T26.heap b7_14 [(0 : Int32), u1, (0 : Int32), (0 : Int32)] := by rw [e_u1]; exact f5_26
  refine own_st (fun _ => XS.aload X26.here hx rfl (hb hby at_90) rfl rfl) ?_
  show own_End p e below P (T26.setTop (mkF m 92 #[.val (.int p0), .val (.int p1), .val (.int p2), .val (.int p3), .val (.int p4), .val (.int p5), .val (.int l0), .val (.int l1), .val (.int l2), .val (.ref br_1), .val (.ref br_2), .val (.ref br_4), .val (.ref b8), .unset] [(.ref b8)]))
  refine own_st (fun _ => XS.aload X26.here hx rfl (hb hby at_92) rfl rfl) ?_
  show own_End p e below P (T26.setTop (mkF m 94 #[.val (.int p0), .val (.int p1), .val (.int p2), .val (.int p3), .val (.int p4), .val (.int p5), .val (.int l0), .val (.int l1), .val (.int l2), .val (.ref br_1), .val (.ref br_2), .val (.ref br_4), .val (.ref b8), .unset] [(.ref br_2), (.ref b8)]))
  have G30 := ((G20.keep Kq14 (ninS ne11 nin0)).keep Kq26 (ninS ne11 (ninS ne21 (ninS ne22 nin0))))
  refine own_callV X26 hx hZ (y := (⟨"com/example/ruangwaktu/ruangwaktu/exam/Enrolments", "add", "([I)V"⟩ : MethodName)) (z := (⟨"com/example/ruangwaktu/ruangwaktu/exam/Enrolments", "add", "([I)V"⟩ : MethodName)) hown (hw _ (List.mem_of_getElem? (i := 18) rfl)) (hw _ (List.mem_of_getElem? (i := 19) rfl)) (notFace_of_selects (args := #[]) (mvT hZ (hw _ (List.mem_of_getElem? (i := 21) rfl)))) (hw _ (List.mem_of_getElem? (i := 21) rfl)) (hw _ (List.mem_of_getElem? (i := 20) rfl)) (hw _ (List.mem_of_getElem? (i := 7) rfl)) (hw _ (List.mem_of_getElem? (i := 22) rfl)) (by decide) f0_26 (own_madd1 l Z a0 hw [] b8 br_2 u1 (own_mk l1 p3 p4) (([] : List Int32) ++ (own_mk l0 p1 p2)) ((c0 + c1 + c2) - (own_mk l0 p1 p2).length) b2_14 b7_14 T26.heap n0 (Nat.le_trans Z0 K26.1) f0_26 f1_26 f2_26 f3_26 G30 f4_26 Au28 low_b8 low_b2_14 low_b7_14 ne15 ne16 ne_b2_14_b7_14 ne11 ne21 ne22 hv1 (by omega)) 0 (by decide) (by decide) rfl (by decide) (by decide) (g := (mkF m 94 #[.val (.int p0), .val (.int p1), .val (.int p2), .val (.int p3), .val (.int p4), .val (.int p5), .val (.int l0), .val (.int l1), .val (.int l2), .val (.ref br_1), .val (.ref br_2), .val (.ref br_4), .val (.ref b8), .unset] [(.ref br_2), (.ref b8)])) rfl (by rw [hml']; rfl) (argsL := [(.ref br_2)]) (rest := []) rfl (lenOf own_pd_I_V_331 rfl) rfl (by show 2 * 0 + _ ≤ _; exact Nat.le_of_eq rfl) (hb hby at_94) (fun r29 T29 L29 X29 hQ29 => ?_)
  obtain ⟨rfl, Nq29, Kq29, f0_29, f1_29, f2_29, f3_29, f4_29, f5_29⟩ := hQ29
  have N29 := Fr.app N26 Nq29
  have K29 := Keep.trans K26 Kq29 (allS (Or.inr sz_b8) (allS (Or.inr sz_b2_14) (allS (Or.inr sz_b7_14) all0)))
  show own_End p e below P (T29.setTop (mkF m 97 #[.val (.int p0), .val (.int p1), .val (.int p2), .val (.int p3), .val (.int p4), .val (.int p5), .val (.int l0), .val (.int l1), .val (.int l2), .val (.ref br_1), .val (.ref br_2), .val (.ref br_4), .val (.ref b8), .unset] []))
  have hv2 : (u1 + (Int32.ofNat (own_mk l1 p3 p4).length)).toInt = (((([] : List Int32) ++ (own_mk l0 p1 p2)) ++ (own_mk l1 p3 p4)).length : Int) := by
    rw [own_add32 hv1 (own_ofn (by omega)) (by simp; omega)]; simp; try omega
  obtain ⟨u2, e_u2⟩ : ∃ z : Int32, z = (u1 + (Int32.ofNat (own_mk l1 p3 p4).length)) := ⟨_, rfl⟩
  rw [← e_u2] at hv2
  have Au31 : own_IA Z T29.heap b7_14 [(0 : Int32), u1, u2, (0 : Int32)] := by rw [e_u2]; exact f5_29
  refine own_st (fun _ => XS.aload X29.here hx rfl (hb hby at_97) rfl rfl) ?_
  show own_End p e below P (T29.setTop (mkF m 99 #[.val (.int p0), .val (.int p1), .val (.int p2), .val (.int p3), .val (.int p4), .val (.int p5), .val (.int l0), .val (.int l1), .val (.int l2), .val (.ref br_1), .val (.ref br_2), .val (.ref br_4), .val (.ref b8), .unset] [(.ref b8)]))
  refine own_st (fun _ => XS.aload X29.here hx rfl (hb hby at_99) rfl rfl) ?_
  show own_End p e below P (T29.setTop (mkF m 101 #[.val (.int p0), .val (.int p1), .val (.int p2), .val (.int p3), .val (.int p4), .val (.int p5), .val (.int l0), .val (.int l1), .val (.int l2), .val (.ref br_1), .val (.ref br_2), .val (.ref br_4), .val (.ref b8), .unset] [(.ref br_4), (.ref b8)]))
  have G33 := (((G23.keep Kq14 (ninS ne13 nin0)).keep Kq26 (ninS ne13 (ninS ne24 (ninS ne25 nin0)))).keep Kq29 (ninS ne13 (ninS ne24 (ninS ne25 nin0))))
  refine own_callV X29 hx hZ (y := (⟨"com/example/ruangwaktu/ruangwaktu/exam/Enrolments", "add", "([I)V"⟩ : MethodName)) (z := (⟨"com/example/ruangwaktu/ruangwaktu/exam/Enrolments", "add", "([I)V"⟩ : MethodName)) hown (hw _ (List.mem_of_getElem? (i := 18) rfl)) (hw _ (List.mem_of_getElem? (i := 19) rfl)) (notFace_of_selects (args := #[]) (mvT hZ (hw _ (List.mem_of_getElem? (i := 21) rfl)))) (hw _ (List.mem_of_getElem? (i := 21) rfl)) (hw _ (List.mem_of_getElem? (i := 20) rfl)) (hw _ (List.mem_of_getElem? (i := 7) rfl)) (hw _ (List.mem_of_getElem? (i := 22) rfl)) (by decide) f0_29 (own_madd2 l Z a0 hw [] b8 br_4 u1 u2 (own_mk l2 p5 f) ((([] : List Int32) ++ (own_mk l0 p1 p2)) ++ (own_mk l1 p3 p4)) (((c0 + c1 + c2) - (own_mk l0 p1 p2).length) - (own_mk l1 p3 p4).length) b2_14 b7_14 T29.heap n0 (Nat.le_trans Z0 K29.1) f0_29 f1_29 f2_29 f3_29 G33 f4_29 Au31 low_b8 low_b2_14 low_b7_14 ne15 ne16 ne_b2_14_b7_14 ne13 ne24 ne25 hv2 (by omega)) 0 (by decide) (by decide) rfl (by decide) (by decide) (g := (mkF m 101 #[.val (.int p0), .val (.int p1), .val (.int p2), .val (.int p3), .val (.int p4), .val (.int p5), .val (.int l0), .val (.int l1), .val (.int l2), .val (.ref br_1), .val (.ref br_2), .val (.ref br_4), .val (.ref b8), .unset] [(.ref br_4), (.ref b8)])) rfl (by rw [hml']; rfl) (argsL := [(.ref br_4)]) (rest := []) rfl (lenOf own_pd_I_V_331 rfl) rfl (by show 2 * 0 + _ ≤ _; exact Nat.le_of_eq rfl) (hb hby at_101) (fun r32 T32 L32 X32 hQ32 => ?_)
  obtain ⟨rfl, Nq32, Kq32, f0_32, f1_32, f2_32, f3_32, f4_32, f5_32⟩ := hQ32
  have N32 := Fr.app N29 Nq32
  have K32 := Keep.trans K29 Kq32 (allS (Or.inr sz_b8) (allS (Or.inr sz_b2_14) (allS (Or.inr sz_b7_14) all0)))
  show own_End p e below P (T32.setTop (mkF m 104 #[.val (.int p0), .val (.int p1), .val (.int p2), .val (.int p3), .val (.int p4), .val (.int p5), .val (.int l0), .val (.int l1), .val (.int l2), .val (.ref br_1), .val (.ref br_2), .val (.ref br_4), .val (.ref b8), .unset] []))
  have hv3 : (u2 + (Int32.ofNat (own_mk l2 p5 f).length)).toInt = ((((([] : List Int32) ++ (own_mk l0 p1 p2)) ++ (own_mk l1 p3 p4)) ++ (own_mk l2 p5 f)).length : Int) := by
    rw [own_add32 hv2 (own_ofn (by omega)) (by simp; omega)]; simp; try omega
  obtain ⟨u3, e_u3⟩ : ∃ z : Int32, z = (u2 + (Int32.ofNat (own_mk l2 p5 f).length)) := ⟨_, rfl⟩
  rw [← e_u3] at hv3
  have Au34 : own_IA Z T32.heap b7_14 [(0 : Int32), u1, u2, u3] := by rw [e_u3]; exact f5_32
  refine own_st (fun _ => XS.iload X32.here hx rfl (hb hby at_104) rfl) ?_
  show own_End p e below P (T32.setTop (mkF m 106 #[.val (.int p0), .val (.int p1), .val (.int p2), .val (.int p3), .val (.int p4), .val (.int p5), .val (.int l0), .val (.int l1), .val (.int l2), .val (.ref br_1), .val (.ref br_2), .val (.ref br_4), .val (.ref b8), .unset] [(.int l0)]))
  by_cases hc35 : (0 : Int32) < l0
  · refine own_st (fun _ => XS.ifNo X32.here hx rfl (hb hby at_106) rfl ((if0 _ _).trans (tlt hc35).2.2.2)) ?_
    show own_End p e below P (T32.setTop (mkF m 109 #[.val (.int p0), .val (.int p1), .val (.int p2), .val (.int p3), .val (.int p4), .val (.int p5), .val (.int l0), .val (.int l1), .val (.int l2), .val (.ref br_1), .val (.ref br_2), .val (.ref br_4), .val (.ref b8), .unset] []))
    have hnz0 : ¬ l0 = (0 : Int32) := fun q => by rw [q] at hc35; exact absurd hc35 (by decide)
    refine own_st (fun _ => XS.aload X32.here hx rfl (hb hby at_109) rfl rfl) ?_
    show own_End p e below P (T32.setTop (mkF m 111 #[.val (.int p0), .val (.int p1), .val (.int p2), .val (.int p3), .val (.int p4), .val (.int p5), .val (.int l0), .val (.int l1), .val (.int l2), .val (.ref br_1), .val (.ref br_2), .val (.ref br_4), .val (.ref b8), .unset] [(.ref br_1)]))
    refine own_st (fun _ => XS.iconst X32.here hx rfl (hb hby at_111)) ?_
    show own_End p e below P (T32.setTop (mkF m 112 #[.val (.int p0), .val (.int p1), .val (.int p2), .val (.int p3), .val (.int p4), .val (.int p5), .val (.int l0), .val (.int l1), .val (.int l2), .val (.ref br_1), .val (.ref br_2), .val (.ref br_4), .val (.ref b8), .unset] [(.int (0 : Int32)), (.ref br_1)]))
    refine own_st (fun _ => XS.iloadN X32.here hx rfl (hb hby at_112) rfl) ?_
    show own_End p e below P (T32.setTop (mkF m 113 #[.val (.int p0), .val (.int p1), .val (.int p2), .val (.int p3), .val (.int p4), .val (.int p5), .val (.int l0), .val (.int l1), .val (.int l2), .val (.ref br_1), .val (.ref br_2), .val (.ref br_4), .val (.ref b8), .unset] [(.int p1), (.int (0 : Int32)), (.ref br_1)]))
    refine own_st (fun _ => XS.iconst X32.here hx rfl (hb hby at_113)) ?_
    show own_End p e below P (T32.setTop (mkF m 114 #[.val (.int p0), .val (.int p1), .val (.int p2), .val (.int p3), .val (.int p4), .val (.int p5), .val (.int l0), .val (.int l1), .val (.int l2), .val (.ref br_1), .val (.ref br_2), .val (.ref br_4), .val (.ref b8), .unset] [(.int (-1 : Int32)), (.int p1), (.int (0 : Int32)), (.ref br_1)]))
    refine own_st (fun _ => XS.ixor X32.here hx rfl (hb hby at_114) rfl) ?_
    show own_End p e below P (T32.setTop (mkF m 115 #[.val (.int p0), .val (.int p1), .val (.int p2), .val (.int p3), .val (.int p4), .val (.int p5), .val (.int l0), .val (.int l1), .val (.int l2), .val (.ref br_1), .val (.ref br_2), .val (.ref br_4), .val (.ref b8), .unset] [(.int (p1 ^^^ (-1 : Int32))), (.int (0 : Int32)), (.ref br_1)]))
    have G36 := (((G27.keep Kq26 (ninS ne9 (ninS ne18 (ninS ne19 nin0)))).keep Kq29 (ninS ne9 (ninS ne18 (ninS ne19 nin0)))).keep Kq32 (ninS ne9 (ninS ne18 (ninS ne19 nin0))))
    refine own_iastore X32 hx hZ rfl G36 (j := (0 : Int32)) (v := (p1 ^^^ (-1 : Int32))) (i := 0) own_z32 (own_mklt hnz0) (g := (mkF m 115 #[.val (.int p0), .val (.int p1), .val (.int p2), .val (.int p3), .val (.int p4), .val (.int p5), .val (.int l0), .val (.int l1), .val (.int l2), .val (.ref br_1), .val (.ref br_2), .val (.ref br_4), .val (.ref b8), .unset] [(.int (p1 ^^^ (-1 : Int32))), (.int (0 : Int32)), (.ref br_1)])) rfl rfl (hb hby at_115) (fun T37 h37 X37 e37 W37 B37 => ?_)
    have A37 : own_IA Z h37 br_1 ((own_mk l0 p1 p2).set 0 (p1 ^^^ (-1 : Int32))) := B37
    have N37 := Fr.snoc X37 N32 low_br_1
    have K37 := Keep.wr K32 W37 (Or.inr sz_br_1)
    show own_End p e below P (T37.setTop (mkF m 116 #[.val (.int p0), .val (.int p1), .val (.int p2), .val (.int p3), .val (.int p4), .val (.int p5), .val (.int l0), .val (.int l1), .val (.int l2), .val (.ref br_1), .val (.ref br_2), .val (.ref br_4), .val (.ref b8), .unset] []))
    refine own_st (fun _ => XS.iload X37.here hx rfl (hb hby at_116) rfl) ?_
    show own_End p e below P (T37.setTop (mkF m 118 #[.val (.int p0), .val (.int p1), .val (.int p2), .val (.int p3), .val (.int p4), .val (.int p5), .val (.int l0), .val (.int l1), .val (.int l2), .val (.ref br_1), .val (.ref br_2), .val (.ref br_4), .val (.ref b8), .unset] [(.int l1)]))
    refine own_st (fun _ => XS.iconst X37.here hx rfl (hb hby at_118)) ?_
    show own_End p e below P (T37.setTop (mkF m 119 #[.val (.int p0), .val (.int p1), .val (.int p2), .val (.int p3), .val (.int p4), .val (.int p5), .val (.int l0), .val (.int l1), .val (.int l2), .val (.ref br_1), .val (.ref br_2), .val (.ref br_4), .val (.ref b8), .unset] [(.int (1 : Int32)), (.int l1)]))
    by_cases hc38 : (1 : Int32) < l1
    · refine own_st (fun _ => XS.icmpNo X37.here hx rfl (hb hby at_119) rfl (tlt hc38).2.2.2) ?_
      show own_End p e below P (T37.setTop (mkF m 122 #[.val (.int p0), .val (.int p1), .val (.int p2), .val (.int p3), .val (.int p4), .val (.int p5), .val (.int l0), .val (.int l1), .val (.int l2), .val (.ref br_1), .val (.ref br_2), .val (.ref br_4), .val (.ref b8), .unset] []))
      have hlt1 : 1 < (own_mk l1 p3 p4).length := by rw [len1]; rw [Int32.lt_iff_toInt_lt, hl1] at hc38; have t1 : (1 : Int32).toInt = 1 := (by decide); omega
      refine own_st (fun _ => XS.aload X37.here hx rfl (hb hby at_122) rfl rfl) ?_
      show own_End p e below P (T37.setTop (mkF m 124 #[.val (.int p0), .val (.int p1), .val (.int p2), .val (.int p3), .val (.int p4), .val (.int p5), .val (.int l0), .val (.int l1), .val (.int l2), .val (.ref br_1), .val (.ref br_2), .val (.ref br_4), .val (.ref b8), .unset] [(.ref br_2)]))
      refine own_st (fun _ => XS.iconst X37.here hx rfl (hb hby at_124)) ?_
      show own_End p e below P (T37.setTop (mkF m 125 #[.val (.int p0), .val (.int p1), .val (.int p2), .val (.int p3), .val (.int p4), .val (.int p5), .val (.int l0), .val (.int l1), .val (.int l2), .val (.ref br_1), .val (.ref br_2), .val (.ref br_4), .val (.ref b8), .unset] [(.int (1 : Int32)), (.ref br_2)]))
      refine own_st (fun _ => XS.iload X37.here hx rfl (hb hby at_125) rfl) ?_
      show own_End p e below P (T37.setTop (mkF m 127 #[.val (.int p0), .val (.int p1), .val (.int p2), .val (.int p3), .val (.int p4), .val (.int p5), .val (.int l0), .val (.int l1), .val (.int l2), .val (.ref br_1), .val (.ref br_2), .val (.ref br_4), .val (.ref b8), .unset] [(.int p4), (.int (1 : Int32)), (.ref br_2)]))
      refine own_st (fun _ => XS.iconst X37.here hx rfl (hb hby at_127)) ?_
      show own_End p e below P (T37.setTop (mkF m 128 #[.val (.int p0), .val (.int p1), .val (.int p2), .val (.int p3), .val (.int p4), .val (.int p5), .val (.int l0), .val (.int l1), .val (.int l2), .val (.ref br_1), .val (.ref br_2), .val (.ref br_4), .val (.ref b8), .unset] [(.int (-1 : Int32)), (.int p4), (.int (1 : Int32)), (.ref br_2)]))
      refine own_st (fun _ => XS.ixor X37.here hx rfl (hb hby at_128) rfl) ?_
      show own_End p e below P (T37.setTop (mkF m 129 #[.val (.int p0), .val (.int p1), .val (.int p2), .val (.int p3), .val (.int p4), .val (.int p5), .val (.int l0), .val (.int l1), .val (.int l2), .val (.ref br_1), .val (.ref br_2), .val (.ref br_4), .val (.ref b8), .unset] [(.int (p4 ^^^ (-1 : Int32))), (.int (1 : Int32)), (.ref br_2)]))
      have G39 := (((G30.keep Kq29 (ninS ne11 (ninS ne21 (ninS ne22 nin0)))).keep Kq32 (ninS ne11 (ninS ne21 (ninS ne22 nin0)))).other W37 (Ne.symm ne3))
      refine own_iastore X37 hx hZ e37 G39 (j := (1 : Int32)) (v := (p4 ^^^ (-1 : Int32))) (i := 1) own_o32 hlt1 (g := (mkF m 129 #[.val (.int p0), .val (.int p1), .val (.int p2), .val (.int p3), .val (.int p4), .val (.int p5), .val (.int l0), .val (.int l1), .val (.int l2), .val (.ref br_1), .val (.ref br_2), .val (.ref br_4), .val (.ref b8), .unset] [(.int (p4 ^^^ (-1 : Int32))), (.int (1 : Int32)), (.ref br_2)])) rfl rfl (hb hby at_129) (fun T40 h40 X40 e40 W40 B40 => ?_)
      have A40 : own_IA Z h40 br_2 ((own_mk l1 p3 p4).set 1 (p4 ^^^ (-1 : Int32))) := B40
      have N40 := Fr.snoc X40 N37 low_br_2
      have K40 := Keep.wr K37 W40 (Or.inr sz_br_2)
      show own_End p e below P (T40.setTop (mkF m 130 #[.val (.int p0), .val (.int p1), .val (.int p2), .val (.int p3), .val (.int p4), .val (.int p5), .val (.int l0), .val (.int l1), .val (.int l2), .val (.ref br_1), .val (.ref br_2), .val (.ref br_4), .val (.ref b8), .unset] []))
      refine own_st (fun _ => XS.aload X40.here hx rfl (hb hby at_130) rfl rfl) ?_
      show own_End p e below P (T40.setTop (mkF m 132 #[.val (.int p0), .val (.int p1), .val (.int p2), .val (.int p3), .val (.int p4), .val (.int p5), .val (.int l0), .val (.int l1), .val (.int l2), .val (.ref br_1), .val (.ref br_2), .val (.ref br_4), .val (.ref b8), .unset] [(.ref b8)]))
      have G42 := ((f3_32.other W37 (Or.inl (Ne.symm ne9))).other W40 (Or.inl (Ne.symm ne11)))
      have G43 := ((f0_32.wr W37).wr W40)
      refine own_callV X40 hx hZ (y := (⟨"com/example/ruangwaktu/ruangwaktu/exam/Enrolments", "students", "()I"⟩ : MethodName)) (z := (⟨"com/example/ruangwaktu/ruangwaktu/exam/Enrolments", "students", "()I"⟩ : MethodName)) hown (hw _ (List.mem_of_getElem? (i := 29) rfl)) (hw _ (List.mem_of_getElem? (i := 30) rfl)) (notFace_of_selects (args := #[]) (mvT hZ (hw _ (List.mem_of_getElem? (i := 32) rfl)))) (hw _ (List.mem_of_getElem? (i := 32) rfl)) (hw _ (List.mem_of_getElem? (i := 31) rfl)) (hw _ (List.mem_of_getElem? (i := 7) rfl)) (hw _ (List.mem_of_getElem? (i := 33) rfl)) (by decide) G43 (own_mstudents l Z a0 hw [] b8  h40 n0 (Nat.le_trans Z0 K40.1) G42) 0 (by decide) (by decide) e40 (by decide) (by decide) (g := (mkF m 132 #[.val (.int p0), .val (.int p1), .val (.int p2), .val (.int p3), .val (.int p4), .val (.int p5), .val (.int l0), .val (.int l1), .val (.int l2), .val (.ref br_1), .val (.ref br_2), .val (.ref br_4), .val (.ref b8), .unset] [(.ref b8)])) rfl (by rw [hml']; rfl) (argsL := []) (rest := []) rfl (lenOf own_pd_I_154 rfl) rfl (by show 2 * 0 + _ ≤ _; exact Nat.le_of_eq rfl) (hb hby at_132) (fun r41 T41 L41 X41 hQ41 => ?_)
      obtain ⟨rfl, Nq41, eq41⟩ := hQ41
      have N41 := Fr.app N40 Nq41
      show own_End p e below P (T41.setTop (mkF m 135 #[.val (.int p0), .val (.int p1), .val (.int p2), .val (.int p3), .val (.int p4), .val (.int p5), .val (.int l0), .val (.int l1), .val (.int l2), .val (.ref br_1), .val (.ref br_2), .val (.ref br_4), .val (.ref b8), .unset] [(.int (3 : Int32))]))
      refine own_st (fun _ => XS.iconst X41.here hx rfl (hb hby at_135)) ?_
      show own_End p e below P (T41.setTop (mkF m 136 #[.val (.int p0), .val (.int p1), .val (.int p2), .val (.int p3), .val (.int p4), .val (.int p5), .val (.int l0), .val (.int l1), .val (.int l2), .val (.ref br_1), .val (.ref br_2), .val (.ref br_4), .val (.ref b8), .unset] [(.int (3 : Int32)), (.int (3 : Int32))]))
      refine own_st (fun _ => XS.icmpNo X41.here hx rfl (hb hby at_136) rfl (teq (by decide : (3 : Int32) = (3 : Int32))).2) ?_
      show own_End p e below P (T41.setTop (mkF m 139 #[.val (.int p0), .val (.int p1), .val (.int p2), .val (.int p3), .val (.int p4), .val (.int p5), .val (.int l0), .val (.int l1), .val (.int l2), .val (.ref br_1), .val (.ref br_2), .val (.ref br_4), .val (.ref b8), .unset] []))
      refine own_st (fun _ => XS.aload X41.here hx rfl (hb hby at_139) rfl rfl) ?_
      show own_End p e below P (T41.setTop (mkF m 141 #[.val (.int p0), .val (.int p1), .val (.int p2), .val (.int p3), .val (.int p4), .val (.int p5), .val (.int l0), .val (.int l1), .val (.int l2), .val (.ref br_1), .val (.ref br_2), .val (.ref br_4), .val (.ref b8), .unset] [(.ref b8)]))
      have G45 := ((f2_32.other W37 (Or.inl (Ne.symm ne9))).other W40 (Or.inl (Ne.symm ne11)))
      have G46 := ((Au34.other W37 (Ne.symm ne19)).other W40 (Ne.symm ne22))
      refine own_callV X41 hx hZ (y := (⟨"com/example/ruangwaktu/ruangwaktu/exam/Enrolments", "total", "()I"⟩ : MethodName)) (z := (⟨"com/example/ruangwaktu/ruangwaktu/exam/Enrolments", "total", "()I"⟩ : MethodName)) hown (hw _ (List.mem_of_getElem? (i := 34) rfl)) (hw _ (List.mem_of_getElem? (i := 35) rfl)) (notFace_of_selects (args := #[]) (mvT hZ (hw _ (List.mem_of_getElem? (i := 37) rfl)))) (hw _ (List.mem_of_getElem? (i := 37) rfl)) (hw _ (List.mem_of_getElem? (i := 36) rfl)) (hw _ (List.mem_of_getElem? (i := 7) rfl)) (hw _ (List.mem_of_getElem? (i := 38) rfl)) (by decide) G43 (own_mtotal l Z a0 hw [] b8 u1 u2 u3 b7_14 h40 n0 (Nat.le_trans Z0 K40.1) G45 G42 G46) 0 (by decide) (by decide) eq41 (by decide) (by decide) (g := (mkF m 141 #[.val (.int p0), .val (.int p1), .val (.int p2), .val (.int p3), .val (.int p4), .val (.int p5), .val (.int l0), .val (.int l1), .val (.int l2), .val (.ref br_1), .val (.ref br_2), .val (.ref br_4), .val (.ref b8), .unset] [(.ref b8)])) rfl (by rw [hml']; rfl) (argsL := []) (rest := []) rfl (lenOf own_pd_I_154 rfl) rfl (by show 2 * 0 + _ ≤ _; exact Nat.le_of_eq rfl) (hb hby at_141) (fun r44 T44 L44 X44 hQ44 => ?_)
      obtain ⟨rfl, Nq44, eq44⟩ := hQ44
      have N44 := Fr.app N41 Nq44
      show own_End p e below P (T44.setTop (mkF m 144 #[.val (.int p0), .val (.int p1), .val (.int p2), .val (.int p3), .val (.int p4), .val (.int p5), .val (.int l0), .val (.int l1), .val (.int l2), .val (.ref br_1), .val (.ref br_2), .val (.ref br_4), .val (.ref b8), .unset] [(.int (own_ftotal u1 u2 u3))]))
      refine own_st (fun _ => XS.iload X44.here hx rfl (hb hby at_144) rfl) ?_
      show own_End p e below P (T44.setTop (mkF m 146 #[.val (.int p0), .val (.int p1), .val (.int p2), .val (.int p3), .val (.int p4), .val (.int p5), .val (.int l0), .val (.int l1), .val (.int l2), .val (.ref br_1), .val (.ref br_2), .val (.ref br_4), .val (.ref b8), .unset] [(.int l0), (.int (own_ftotal u1 u2 u3))]))
      refine own_st (fun _ => XS.iload X44.here hx rfl (hb hby at_146) rfl) ?_
      show own_End p e below P (T44.setTop (mkF m 148 #[.val (.int p0), .val (.int p1), .val (.int p2), .val (.int p3), .val (.int p4), .val (.int p5), .val (.int l0), .val (.int l1), .val (.int l2), .val (.ref br_1), .val (.ref br_2), .val (.ref br_4), .val (.ref b8), .unset] [(.int l1), (.int l0), (.int (own_ftotal u1 u2 u3))]))
      refine own_st (fun _ => XS.iadd X44.here hx rfl (hb hby at_148) rfl) ?_
      show own_End p e below P (T44.setTop (mkF m 149 #[.val (.int p0), .val (.int p1), .val (.int p2), .val (.int p3), .val (.int p4), .val (.int p5), .val (.int l0), .val (.int l1), .val (.int l2), .val (.ref br_1), .val (.ref br_2), .val (.ref br_4), .val (.ref b8), .unset] [(.int (l0 + l1)), (.int (own_ftotal u1 u2 u3))]))
      refine own_st (fun _ => XS.iload X44.here hx rfl (hb hby at_149) rfl) ?_
      show own_End p e below P (T44.setTop (mkF m 151 #[.val (.int p0), .val (.int p1), .val (.int p2), .val (.int p3), .val (.int p4), .val (.int p5), .val (.int l0), .val (.int l1), .val (.int l2), .val (.ref br_1), .val (.ref br_2), .val (.ref br_4), .val (.ref b8), .unset] [(.int l2), (.int (l0 + l1)), (.int (own_ftotal u1 u2 u3))]))
      refine own_st (fun _ => XS.iadd X44.here hx rfl (hb hby at_151) rfl) ?_
      show own_End p e below P (T44.setTop (mkF m 152 #[.val (.int p0), .val (.int p1), .val (.int p2), .val (.int p3), .val (.int p4), .val (.int p5), .val (.int l0), .val (.int l1), .val (.int l2), .val (.ref br_1), .val (.ref br_2), .val (.ref br_4), .val (.ref b8), .unset] [(.int ((l0 + l1) + l2)), (.int (own_ftotal u1 u2 u3))]))
      have hc47 : (own_ftotal u1 u2 u3) = ((l0 + l1) + l2) := by exact own_tot hv3 (by rw [(own_add32 (own_add32 hl0 hl1 (by omega)) hl2 (by omega))]; simp <;> omega)
      refine own_st (fun _ => XS.icmpNo X44.here hx rfl (hb hby at_152) rfl (teq hc47).2) ?_
      show own_End p e below P (T44.setTop (mkF m 155 #[.val (.int p0), .val (.int p1), .val (.int p2), .val (.int p3), .val (.int p4), .val (.int p5), .val (.int l0), .val (.int l1), .val (.int l2), .val (.ref br_1), .val (.ref br_2), .val (.ref br_4), .val (.ref b8), .unset] []))
      refine own_st (fun _ => XS.iconst X44.here hx rfl (hb hby at_155)) ?_
      show own_End p e below P (T44.setTop (mkF m 156 #[.val (.int p0), .val (.int p1), .val (.int p2), .val (.int p3), .val (.int p4), .val (.int p5), .val (.int l0), .val (.int l1), .val (.int l2), .val (.ref br_1), .val (.ref br_2), .val (.ref br_4), .val (.ref b8), .unset] [(.int (1 : Int32))]))
      refine own_st (fun _ => XS.goto X44.here hx rfl (pc0 := 156) (pc' := 160) rfl (hb hby at_156) (by decide) (by decide)) ?_
      show own_End p e below P (T44.setTop (mkF m 160 #[.val (.int p0), .val (.int p1), .val (.int p2), .val (.int p3), .val (.int p4), .val (.int p5), .val (.int l0), .val (.int l1), .val (.int l2), .val (.ref br_1), .val (.ref br_2), .val (.ref br_4), .val (.ref b8), .unset] [(.int (1 : Int32))]))
      refine own_st (fun _ => XS.istore X44.here hx rfl (hb hby at_160) rfl (l' := #[.val (.int p0), .val (.int p1), .val (.int p2), .val (.int p3), .val (.int p4), .val (.int p5), .val (.int l0), .val (.int l1), .val (.int l2), .val (.ref br_1), .val (.ref br_2), .val (.ref br_4), .val (.ref b8), .val (.int (1 : Int32))]) rfl) ?_
      show own_End p e below P (T44.setTop (mkF m 162 #[.val (.int p0), .val (.int p1), .val (.int p2), .val (.int p3), .val (.int p4), .val (.int p5), .val (.int l0), .val (.int l1), .val (.int l2), .val (.ref br_1), .val (.ref br_2), .val (.ref br_4), .val (.ref b8), .val (.int (1 : Int32))] []))
      refine own_st (fun _ => XS.iload X44.here hx rfl (hb hby at_162) rfl) ?_
      show own_End p e below P (T44.setTop (mkF m 164 #[.val (.int p0), .val (.int p1), .val (.int p2), .val (.int p3), .val (.int p4), .val (.int p5), .val (.int l0), .val (.int l1), .val (.int l2), .val (.ref br_1), .val (.ref br_2), .val (.ref br_4), .val (.ref b8), .val (.int (1 : Int32))] [(.int (1 : Int32))]))
      refine own_st (fun _ => XS.ifNo X44.here hx rfl (hb hby at_164) rfl ((if0 _ _).trans (feq (by decide : ¬ ((1 : Int32) = (0 : Int32)))).1)) ?_
      show own_End p e below P (T44.setTop (mkF m 167 #[.val (.int p0), .val (.int p1), .val (.int p2), .val (.int p3), .val (.int p4), .val (.int p5), .val (.int l0), .val (.int l1), .val (.int l2), .val (.ref br_1), .val (.ref br_2), .val (.ref br_4), .val (.ref b8), .val (.int (1 : Int32))] []))
      refine own_st (fun _ => XS.aload X44.here hx rfl (hb hby at_167) rfl rfl) ?_
      show own_End p e below P (T44.setTop (mkF m 169 #[.val (.int p0), .val (.int p1), .val (.int p2), .val (.int p3), .val (.int p4), .val (.int p5), .val (.int l0), .val (.int l1), .val (.int l2), .val (.ref br_1), .val (.ref br_2), .val (.ref br_4), .val (.ref b8), .val (.int (1 : Int32))] [(.ref b8)]))
      refine own_st (fun _ => XS.iconst X44.here hx rfl (hb hby at_169)) ?_
      show own_End p e below P (T44.setTop (mkF m 170 #[.val (.int p0), .val (.int p1), .val (.int p2), .val (.int p3), .val (.int p4), .val (.int p5), .val (.int l0), .val (.int l1), .val (.int l2), .val (.ref br_1), .val (.ref br_2), .val (.ref br_4), .val (.ref b8), .val (.int (1 : Int32))] [(.int (0 : Int32)), (.ref b8)]))
      have G48 := ((f4_32.other W37 (Ne.symm ne18)).other W40 (Ne.symm ne21))
      have Ac49 : own_IA Z h40 b2_14 (([] : List Int32) ++ ((own_mk l0 p1 p2) ++ ((own_mk l1 p3 p4) ++ ((own_mk l2 p5 f) ++ (List.replicate ((((c0 + c1 + c2) - (own_mk l0 p1 p2).length) - (own_mk l1 p3 p4).length) - (own_mk l2 p5 f).length) (0 : Int32)))))) := by simpa only [List.append_assoc, List.nil_append, List.append_nil] using G48
      have G51 := ((f1_32.other W37 (Or.inl (Ne.symm ne9))).other W40 (Or.inl (Ne.symm ne11)))
      refine own_callV X44 hx hZ (y := (⟨"com/example/ruangwaktu/ruangwaktu/exam/Enrolments", "examsOf", "(I)[I"⟩ : MethodName)) (z := (⟨"com/example/ruangwaktu/ruangwaktu/exam/Enrolments", "examsOf", "(I)[I"⟩ : MethodName)) hown (hw _ (List.mem_of_getElem? (i := 39) rfl)) (hw _ (List.mem_of_getElem? (i := 40) rfl)) (notFace_of_selects (args := #[]) (mvT hZ (hw _ (List.mem_of_getElem? (i := 42) rfl)))) (hw _ (List.mem_of_getElem? (i := 42) rfl)) (hw _ (List.mem_of_getElem? (i := 41) rfl)) (hw _ (List.mem_of_getElem? (i := 7) rfl)) (hw _ (List.mem_of_getElem? (i := 43) rfl)) (by decide) G43 (own_mex0 l Z a0 hw [] b8 u1 u2 u3 ([] : List Int32) (own_mk l0 p1 p2) ((own_mk l1 p3 p4) ++ ((own_mk l2 p5 f) ++ (List.replicate ((((c0 + c1 + c2) - (own_mk l0 p1 p2).length) - (own_mk l1 p3 p4).length) - (own_mk l2 p5 f).length) (0 : Int32)))) b2_14 b7_14 h40 n0 (Nat.le_trans Z0 K40.1) G51 G45 Ac49 G46 own_z32 (by rw [hv1]; simp <;> omega) (by simp; omega)) 0 (by decide) (by decide) eq44 (by decide) (by decide) (g := (mkF m 170 #[.val (.int p0), .val (.int p1), .val (.int p2), .val (.int p3), .val (.int p4), .val (.int p5), .val (.int l0), .val (.int l1), .val (.int l2), .val (.ref br_1), .val (.ref br_2), .val (.ref br_4), .val (.ref b8), .val (.int (1 : Int32))] [(.int (0 : Int32)), (.ref b8)])) rfl (by rw [hml']; rfl) (argsL := [(.int (0 : Int32))]) (rest := []) rfl (lenOf own_pd_I__I_318 rfl) rfl (by show 2 * 0 + _ ≤ _; exact Nat.le_of_eq rfl) (hb hby at_170) (fun r50 T50 L50 X50 hQ50 => ?_)
      obtain ⟨br_50, rfl, Nq50, Kq50, szq_br_50, low_br_50, f0_50⟩ := hQ50
      have N50 := Fr.app N44 Nq50
      have ne52 : b2_14 ≠ br_50 := Nat.ne_of_lt (Nat.lt_of_lt_of_le Ac49.lt szq_br_50)
      have ne53 : b7_14 ≠ br_50 := Nat.ne_of_lt (Nat.lt_of_lt_of_le G46.lt szq_br_50)
      have ne54 : b8 ≠ br_50 := Nat.ne_of_lt (Nat.lt_of_lt_of_le G43.lt szq_br_50)
      have G55 := (A37.other W40 ne3)
      have ne56 : br_1 ≠ br_50 := Nat.ne_of_lt (Nat.lt_of_lt_of_le G55.lt szq_br_50)
      have ne57 : br_2 ≠ br_50 := Nat.ne_of_lt (Nat.lt_of_lt_of_le A40.lt szq_br_50)
      have G58 := (((G33.keep Kq32 (ninS ne13 (ninS ne24 (ninS ne25 nin0)))).other W37 (Ne.symm ne6)).other W40 (Ne.symm ne7))
      have ne59 : br_4 ≠ br_50 := Nat.ne_of_lt (Nat.lt_of_lt_of_le G58.lt szq_br_50)
      have sz_br_50 := Nat.le_trans K40.1 szq_br_50
      have K50 := Keep.trans K40 Kq50 all0
      show own_End p e below P (T50.setTop (mkF m 173 #[.val (.int p0), .val (.int p1), .val (.int p2), .val (.int p3), .val (.int p4), .val (.int p5), .val (.int l0), .val (.int l1), .val (.int l2), .val (.ref br_1), .val (.ref br_2), .val (.ref br_4), .val (.ref b8), .val (.int (1 : Int32))] [(.ref br_50)]))
      refine own_st (fun _ => XS.iload X50.here hx rfl (hb hby at_173) rfl) ?_
      show own_End p e below P (T50.setTop (mkF m 175 #[.val (.int p0), .val (.int p1), .val (.int p2), .val (.int p3), .val (.int p4), .val (.int p5), .val (.int l0), .val (.int l1), .val (.int l2), .val (.ref br_1), .val (.ref br_2), .val (.ref br_4), .val (.ref b8), .val (.int (1 : Int32))] [(.int l0), (.ref br_50)]))
      refine own_st (fun _ => XS.iloadN X50.here hx rfl (hb hby at_175) rfl) ?_
      show own_End p e below P (T50.setTop (mkF m 176 #[.val (.int p0), .val (.int p1), .val (.int p2), .val (.int p3), .val (.int p4), .val (.int p5), .val (.int l0), .val (.int l1), .val (.int l2), .val (.ref br_1), .val (.ref br_2), .val (.ref br_4), .val (.ref b8), .val (.int (1 : Int32))] [(.int p1), (.int l0), (.ref br_50)]))
      refine own_st (fun _ => XS.iloadN X50.here hx rfl (hb hby at_176) rfl) ?_
      show own_End p e below P (T50.setTop (mkF m 177 #[.val (.int p0), .val (.int p1), .val (.int p2), .val (.int p3), .val (.int p4), .val (.int p5), .val (.int l0), .val (.int l1), .val (.int l2), .val (.ref br_1), .val (.ref br_2), .val (.ref br_4), .val (.ref b8), .val (.int (1 : Int32))] [(.int p2), (.int p1), (.int l0), (.ref br_50)]))
      refine own_callS X50 hx hZ (y := (⟨"com/example/ruangwaktu/ruangwaktu/exam/EnrolmentsAddPinLaw", "same", "([IIII)Z"⟩ : MethodName)) hown (hw _ (List.mem_of_getElem? (i := 57) rfl)) (hw _ (List.mem_of_getElem? (i := 58) rfl)) (hw _ (List.mem_of_getElem? (i := 2) rfl)) (hw _ (List.mem_of_getElem? (i := 59) rfl)) (by decide) (own_msame l Z a0 hw [] br_50 l0 p1 p2 c0 T50.heap n0 (Nat.le_trans Z0 K50.1) f0_50 hl0 hm0) 0 (by decide) (by decide) rfl (by decide) (by decide) (g := (mkF m 177 #[.val (.int p0), .val (.int p1), .val (.int p2), .val (.int p3), .val (.int p4), .val (.int p5), .val (.int l0), .val (.int l1), .val (.int l2), .val (.ref br_1), .val (.ref br_2), .val (.ref br_4), .val (.ref b8), .val (.int (1 : Int32))] [(.int p2), (.int p1), (.int l0), (.ref br_50)])) rfl (by rw [hml']; rfl) (argsL := [(.ref br_50), (.int l0), (.int p1), (.int p2)]) (rest := []) rfl (lenOf own_pd_IIII_Z_554 rfl) rfl (by show 2 * 0 + _ ≤ _; exact Nat.le_of_eq rfl) (hb hby at_177) (fun r60 T60 L60 X60 hQ60 => ?_)
      obtain ⟨rfl, Nq60, eq60⟩ := hQ60
      have N60 := Fr.app N50 Nq60
      show own_End p e below P (T60.setTop (mkF m 180 #[.val (.int p0), .val (.int p1), .val (.int p2), .val (.int p3), .val (.int p4), .val (.int p5), .val (.int l0), .val (.int l1), .val (.int l2), .val (.ref br_1), .val (.ref br_2), .val (.ref br_4), .val (.ref b8), .val (.int (1 : Int32))] [(.int (1 : Int32))]))
      refine own_st (fun _ => XS.ifNo X60.here hx rfl (hb hby at_180) rfl ((if0 _ _).trans (feq (by decide : ¬ ((1 : Int32) = (0 : Int32)))).1)) ?_
      show own_End p e below P (T60.setTop (mkF m 183 #[.val (.int p0), .val (.int p1), .val (.int p2), .val (.int p3), .val (.int p4), .val (.int p5), .val (.int l0), .val (.int l1), .val (.int l2), .val (.ref br_1), .val (.ref br_2), .val (.ref br_4), .val (.ref b8), .val (.int (1 : Int32))] []))
      refine own_st (fun _ => XS.iconst X60.here hx rfl (hb hby at_183)) ?_
      show own_End p e below P (T60.setTop (mkF m 184 #[.val (.int p0), .val (.int p1), .val (.int p2), .val (.int p3), .val (.int p4), .val (.int p5), .val (.int l0), .val (.int l1), .val (.int l2), .val (.ref br_1), .val (.ref br_2), .val (.ref br_4), .val (.ref b8), .val (.int (1 : Int32))] [(.int (1 : Int32))]))
      refine own_st (fun _ => XS.goto X60.here hx rfl (pc0 := 184) (pc' := 188) rfl (hb hby at_184) (by decide) (by decide)) ?_
      show own_End p e below P (T60.setTop (mkF m 188 #[.val (.int p0), .val (.int p1), .val (.int p2), .val (.int p3), .val (.int p4), .val (.int p5), .val (.int l0), .val (.int l1), .val (.int l2), .val (.ref br_1), .val (.ref br_2), .val (.ref br_4), .val (.ref b8), .val (.int (1 : Int32))] [(.int (1 : Int32))]))
      refine own_st (fun _ => XS.istore X60.here hx rfl (hb hby at_188) rfl (l' := #[.val (.int p0), .val (.int p1), .val (.int p2), .val (.int p3), .val (.int p4), .val (.int p5), .val (.int l0), .val (.int l1), .val (.int l2), .val (.ref br_1), .val (.ref br_2), .val (.ref br_4), .val (.ref b8), .val (.int (1 : Int32))]) rfl) ?_
      show own_End p e below P (T60.setTop (mkF m 190 #[.val (.int p0), .val (.int p1), .val (.int p2), .val (.int p3), .val (.int p4), .val (.int p5), .val (.int l0), .val (.int l1), .val (.int l2), .val (.ref br_1), .val (.ref br_2), .val (.ref br_4), .val (.ref b8), .val (.int (1 : Int32))] []))
      refine own_st (fun _ => XS.iload X60.here hx rfl (hb hby at_190) rfl) ?_
      show own_End p e below P (T60.setTop (mkF m 192 #[.val (.int p0), .val (.int p1), .val (.int p2), .val (.int p3), .val (.int p4), .val (.int p5), .val (.int l0), .val (.int l1), .val (.int l2), .val (.ref br_1), .val (.ref br_2), .val (.ref br_4), .val (.ref b8), .val (.int (1 : Int32))] [(.int (1 : Int32))]))
      refine own_st (fun _ => XS.ifNo X60.here hx rfl (hb hby at_192) rfl ((if0 _ _).trans (feq (by decide : ¬ ((1 : Int32) = (0 : Int32)))).1)) ?_
      show own_End p e below P (T60.setTop (mkF m 195 #[.val (.int p0), .val (.int p1), .val (.int p2), .val (.int p3), .val (.int p4), .val (.int p5), .val (.int l0), .val (.int l1), .val (.int l2), .val (.ref br_1), .val (.ref br_2), .val (.ref br_4), .val (.ref b8), .val (.int (1 : Int32))] []))
      refine own_st (fun _ => XS.aload X60.here hx rfl (hb hby at_195) rfl rfl) ?_
      show own_End p e below P (T60.setTop (mkF m 197 #[.val (.int p0), .val (.int p1), .val (.int p2), .val (.int p3), .val (.int p4), .val (.int p5), .val (.int l0), .val (.int l1), .val (.int l2), .val (.ref br_1), .val (.ref br_2), .val (.ref br_4), .val (.ref b8), .val (.int (1 : Int32))] [(.ref b8)]))
      refine own_st (fun _ => XS.iconst X60.here hx rfl (hb hby at_197)) ?_
      show own_End p e below P (T60.setTop (mkF m 198 #[.val (.int p0), .val (.int p1), .val (.int p2), .val (.int p3), .val (.int p4), .val (.int p5), .val (.int l0), .val (.int l1), .val (.int l2), .val (.ref br_1), .val (.ref br_2), .val (.ref br_4), .val (.ref b8), .val (.int (1 : Int32))] [(.int (1 : Int32)), (.ref b8)]))
      have G61 := (Ac49.keep Kq50 nin0)
      have Ac62 : own_IA Z T50.heap b2_14 ((own_mk l0 p1 p2) ++ ((own_mk l1 p3 p4) ++ ((own_mk l2 p5 f) ++ (List.replicate ((((c0 + c1 + c2) - (own_mk l0 p1 p2).length) - (own_mk l1 p3 p4).length) - (own_mk l2 p5 f).length) (0 : Int32))))) := by simpa only [List.append_assoc, List.nil_append, List.append_nil] using G61
      have G64 := (G51.keep Kq50 nin0)
      have G65 := (G45.keep Kq50 nin0)
      have G66 := (G46.keep Kq50 nin0)
      have G67 := (G43.keep Kq50)
      refine own_callV X60 hx hZ (y := (⟨"com/example/ruangwaktu/ruangwaktu/exam/Enrolments", "examsOf", "(I)[I"⟩ : MethodName)) (z := (⟨"com/example/ruangwaktu/ruangwaktu/exam/Enrolments", "examsOf", "(I)[I"⟩ : MethodName)) hown (hw _ (List.mem_of_getElem? (i := 39) rfl)) (hw _ (List.mem_of_getElem? (i := 40) rfl)) (notFace_of_selects (args := #[]) (mvT hZ (hw _ (List.mem_of_getElem? (i := 42) rfl)))) (hw _ (List.mem_of_getElem? (i := 42) rfl)) (hw _ (List.mem_of_getElem? (i := 41) rfl)) (hw _ (List.mem_of_getElem? (i := 7) rfl)) (hw _ (List.mem_of_getElem? (i := 43) rfl)) (by decide) G67 (own_mex1 l Z a0 hw [] b8 u1 u2 u3 (own_mk l0 p1 p2) (own_mk l1 p3 p4) ((own_mk l2 p5 f) ++ (List.replicate ((((c0 + c1 + c2) - (own_mk l0 p1 p2).length) - (own_mk l1 p3 p4).length) - (own_mk l2 p5 f).length) (0 : Int32))) b2_14 b7_14 T50.heap n0 (Nat.le_trans Z0 K50.1) G64 G65 Ac62 G66 (by simpa using hv1) (by rw [hv2]; simp <;> omega) (by simp; omega)) 0 (by decide) (by decide) eq60 (by decide) (by decide) (g := (mkF m 198 #[.val (.int p0), .val (.int p1), .val (.int p2), .val (.int p3), .val (.int p4), .val (.int p5), .val (.int l0), .val (.int l1), .val (.int l2), .val (.ref br_1), .val (.ref br_2), .val (.ref br_4), .val (.ref b8), .val (.int (1 : Int32))] [(.int (1 : Int32)), (.ref b8)])) rfl (by rw [hml']; rfl) (argsL := [(.int (1 : Int32))]) (rest := []) rfl (lenOf own_pd_I__I_318 rfl) rfl (by show 2 * 0 + _ ≤ _; exact Nat.le_of_eq rfl) (hb hby at_198) (fun r63 T63 L63 X63 hQ63 => ?_)
      obtain ⟨br_63, rfl, Nq63, Kq63, szq_br_63, low_br_63, f0_63⟩ := hQ63
      have N63 := Fr.app N60 Nq63
      have ne68 : b2_14 ≠ br_63 := Nat.ne_of_lt (Nat.lt_of_lt_of_le Ac62.lt szq_br_63)
      have ne69 : b7_14 ≠ br_63 := Nat.ne_of_lt (Nat.lt_of_lt_of_le G66.lt szq_br_63)
      have ne70 : b8 ≠ br_63 := Nat.ne_of_lt (Nat.lt_of_lt_of_le G67.lt szq_br_63)
      have G71 := (G55.keep Kq50 nin0)
      have ne72 : br_1 ≠ br_63 := Nat.ne_of_lt (Nat.lt_of_lt_of_le G71.lt szq_br_63)
      have G73 := (A40.keep Kq50 nin0)
      have ne74 : br_2 ≠ br_63 := Nat.ne_of_lt (Nat.lt_of_lt_of_le G73.lt szq_br_63)
      have G75 := (G58.keep Kq50 nin0)
      have ne76 : br_4 ≠ br_63 := Nat.ne_of_lt (Nat.lt_of_lt_of_le G75.lt szq_br_63)
      have ne77 : br_50 ≠ br_63 := Nat.ne_of_lt (Nat.lt_of_lt_of_le f0_50.lt szq_br_63)
      have sz_br_63 := Nat.le_trans K50.1 szq_br_63
      have K63 := Keep.trans K50 Kq63 all0
      show own_End p e below P (T63.setTop (mkF m 201 #[.val (.int p0), .val (.int p1), .val (.int p2), .val (.int p3), .val (.int p4), .val (.int p5), .val (.int l0), .val (.int l1), .val (.int l2), .val (.ref br_1), .val (.ref br_2), .val (.ref br_4), .val (.ref b8), .val (.int (1 : Int32))] [(.ref br_63)]))
      refine own_st (fun _ => XS.iload X63.here hx rfl (hb hby at_201) rfl) ?_
      show own_End p e below P (T63.setTop (mkF m 203 #[.val (.int p0), .val (.int p1), .val (.int p2), .val (.int p3), .val (.int p4), .val (.int p5), .val (.int l0), .val (.int l1), .val (.int l2), .val (.ref br_1), .val (.ref br_2), .val (.ref br_4), .val (.ref b8), .val (.int (1 : Int32))] [(.int l1), (.ref br_63)]))
      refine own_st (fun _ => XS.iloadN X63.here hx rfl (hb hby at_203) rfl) ?_
      show own_End p e below P (T63.setTop (mkF m 204 #[.val (.int p0), .val (.int p1), .val (.int p2), .val (.int p3), .val (.int p4), .val (.int p5), .val (.int l0), .val (.int l1), .val (.int l2), .val (.ref br_1), .val (.ref br_2), .val (.ref br_4), .val (.ref b8), .val (.int (1 : Int32))] [(.int p3), (.int l1), (.ref br_63)]))
      refine own_st (fun _ => XS.iload X63.here hx rfl (hb hby at_204) rfl) ?_
      show own_End p e below P (T63.setTop (mkF m 206 #[.val (.int p0), .val (.int p1), .val (.int p2), .val (.int p3), .val (.int p4), .val (.int p5), .val (.int l0), .val (.int l1), .val (.int l2), .val (.ref br_1), .val (.ref br_2), .val (.ref br_4), .val (.ref b8), .val (.int (1 : Int32))] [(.int p4), (.int p3), (.int l1), (.ref br_63)]))
      refine own_callS X63 hx hZ (y := (⟨"com/example/ruangwaktu/ruangwaktu/exam/EnrolmentsAddPinLaw", "same", "([IIII)Z"⟩ : MethodName)) hown (hw _ (List.mem_of_getElem? (i := 57) rfl)) (hw _ (List.mem_of_getElem? (i := 58) rfl)) (hw _ (List.mem_of_getElem? (i := 2) rfl)) (hw _ (List.mem_of_getElem? (i := 59) rfl)) (by decide) (own_msame l Z a0 hw [] br_63 l1 p3 p4 c1 T63.heap n0 (Nat.le_trans Z0 K63.1) f0_63 hl1 hm1) 0 (by decide) (by decide) rfl (by decide) (by decide) (g := (mkF m 206 #[.val (.int p0), .val (.int p1), .val (.int p2), .val (.int p3), .val (.int p4), .val (.int p5), .val (.int l0), .val (.int l1), .val (.int l2), .val (.ref br_1), .val (.ref br_2), .val (.ref br_4), .val (.ref b8), .val (.int (1 : Int32))] [(.int p4), (.int p3), (.int l1), (.ref br_63)])) rfl (by rw [hml']; rfl) (argsL := [(.ref br_63), (.int l1), (.int p3), (.int p4)]) (rest := []) rfl (lenOf own_pd_IIII_Z_554 rfl) rfl (by show 2 * 0 + _ ≤ _; exact Nat.le_of_eq rfl) (hb hby at_206) (fun r78 T78 L78 X78 hQ78 => ?_)
      obtain ⟨rfl, Nq78, eq78⟩ := hQ78
      have N78 := Fr.app N63 Nq78
      show own_End p e below P (T78.setTop (mkF m 209 #[.val (.int p0), .val (.int p1), .val (.int p2), .val (.int p3), .val (.int p4), .val (.int p5), .val (.int l0), .val (.int l1), .val (.int l2), .val (.ref br_1), .val (.ref br_2), .val (.ref br_4), .val (.ref b8), .val (.int (1 : Int32))] [(.int (1 : Int32))]))
      refine own_st (fun _ => XS.ifNo X78.here hx rfl (hb hby at_209) rfl ((if0 _ _).trans (feq (by decide : ¬ ((1 : Int32) = (0 : Int32)))).1)) ?_
      show own_End p e below P (T78.setTop (mkF m 212 #[.val (.int p0), .val (.int p1), .val (.int p2), .val (.int p3), .val (.int p4), .val (.int p5), .val (.int l0), .val (.int l1), .val (.int l2), .val (.ref br_1), .val (.ref br_2), .val (.ref br_4), .val (.ref b8), .val (.int (1 : Int32))] []))
      refine own_st (fun _ => XS.iconst X78.here hx rfl (hb hby at_212)) ?_
      show own_End p e below P (T78.setTop (mkF m 213 #[.val (.int p0), .val (.int p1), .val (.int p2), .val (.int p3), .val (.int p4), .val (.int p5), .val (.int l0), .val (.int l1), .val (.int l2), .val (.ref br_1), .val (.ref br_2), .val (.ref br_4), .val (.ref b8), .val (.int (1 : Int32))] [(.int (1 : Int32))]))
      refine own_st (fun _ => XS.goto X78.here hx rfl (pc0 := 213) (pc' := 217) rfl (hb hby at_213) (by decide) (by decide)) ?_
      show own_End p e below P (T78.setTop (mkF m 217 #[.val (.int p0), .val (.int p1), .val (.int p2), .val (.int p3), .val (.int p4), .val (.int p5), .val (.int l0), .val (.int l1), .val (.int l2), .val (.ref br_1), .val (.ref br_2), .val (.ref br_4), .val (.ref b8), .val (.int (1 : Int32))] [(.int (1 : Int32))]))
      refine own_st (fun _ => XS.istore X78.here hx rfl (hb hby at_217) rfl (l' := #[.val (.int p0), .val (.int p1), .val (.int p2), .val (.int p3), .val (.int p4), .val (.int p5), .val (.int l0), .val (.int l1), .val (.int l2), .val (.ref br_1), .val (.ref br_2), .val (.ref br_4), .val (.ref b8), .val (.int (1 : Int32))]) rfl) ?_
      show own_End p e below P (T78.setTop (mkF m 219 #[.val (.int p0), .val (.int p1), .val (.int p2), .val (.int p3), .val (.int p4), .val (.int p5), .val (.int l0), .val (.int l1), .val (.int l2), .val (.ref br_1), .val (.ref br_2), .val (.ref br_4), .val (.ref b8), .val (.int (1 : Int32))] []))
      refine own_st (fun _ => XS.iload X78.here hx rfl (hb hby at_219) rfl) ?_
      show own_End p e below P (T78.setTop (mkF m 221 #[.val (.int p0), .val (.int p1), .val (.int p2), .val (.int p3), .val (.int p4), .val (.int p5), .val (.int l0), .val (.int l1), .val (.int l2), .val (.ref br_1), .val (.ref br_2), .val (.ref br_4), .val (.ref b8), .val (.int (1 : Int32))] [(.int (1 : Int32))]))
      refine own_st (fun _ => XS.ifNo X78.here hx rfl (hb hby at_221) rfl ((if0 _ _).trans (feq (by decide : ¬ ((1 : Int32) = (0 : Int32)))).1)) ?_
      show own_End p e below P (T78.setTop (mkF m 224 #[.val (.int p0), .val (.int p1), .val (.int p2), .val (.int p3), .val (.int p4), .val (.int p5), .val (.int l0), .val (.int l1), .val (.int l2), .val (.ref br_1), .val (.ref br_2), .val (.ref br_4), .val (.ref b8), .val (.int (1 : Int32))] []))
      refine own_st (fun _ => XS.aload X78.here hx rfl (hb hby at_224) rfl rfl) ?_
      show own_End p e below P (T78.setTop (mkF m 226 #[.val (.int p0), .val (.int p1), .val (.int p2), .val (.int p3), .val (.int p4), .val (.int p5), .val (.int l0), .val (.int l1), .val (.int l2), .val (.ref br_1), .val (.ref br_2), .val (.ref br_4), .val (.ref b8), .val (.int (1 : Int32))] [(.ref b8)]))
      refine own_st (fun _ => XS.iconst X78.here hx rfl (hb hby at_226)) ?_
      show own_End p e below P (T78.setTop (mkF m 227 #[.val (.int p0), .val (.int p1), .val (.int p2), .val (.int p3), .val (.int p4), .val (.int p5), .val (.int l0), .val (.int l1), .val (.int l2), .val (.ref br_1), .val (.ref br_2), .val (.ref br_4), .val (.ref b8), .val (.int (1 : Int32))] [(.int (2 : Int32)), (.ref b8)]))
      have G79 := (Ac62.keep Kq63 nin0)
      have Ac80 : own_IA Z T63.heap b2_14 (((own_mk l0 p1 p2) ++ (own_mk l1 p3 p4)) ++ ((own_mk l2 p5 f) ++ (List.replicate ((((c0 + c1 + c2) - (own_mk l0 p1 p2).length) - (own_mk l1 p3 p4).length) - (own_mk l2 p5 f).length) (0 : Int32)))) := by simpa only [List.append_assoc, List.nil_append, List.append_nil] using G79
      have G82 := (G64.keep Kq63 nin0)
      have G83 := (G65.keep Kq63 nin0)
      have G84 := (G66.keep Kq63 nin0)
      have G85 := (G67.keep Kq63)
      refine own_callV X78 hx hZ (y := (⟨"com/example/ruangwaktu/ruangwaktu/exam/Enrolments", "examsOf", "(I)[I"⟩ : MethodName)) (z := (⟨"com/example/ruangwaktu/ruangwaktu/exam/Enrolments", "examsOf", "(I)[I"⟩ : MethodName)) hown (hw _ (List.mem_of_getElem? (i := 39) rfl)) (hw _ (List.mem_of_getElem? (i := 40) rfl)) (notFace_of_selects (args := #[]) (mvT hZ (hw _ (List.mem_of_getElem? (i := 42) rfl)))) (hw _ (List.mem_of_getElem? (i := 42) rfl)) (hw _ (List.mem_of_getElem? (i := 41) rfl)) (hw _ (List.mem_of_getElem? (i := 7) rfl)) (hw _ (List.mem_of_getElem? (i := 43) rfl)) (by decide) G85 (own_mex2 l Z a0 hw [] b8 u1 u2 u3 ((own_mk l0 p1 p2) ++ (own_mk l1 p3 p4)) (own_mk l2 p5 f) (List.replicate ((((c0 + c1 + c2) - (own_mk l0 p1 p2).length) - (own_mk l1 p3 p4).length) - (own_mk l2 p5 f).length) (0 : Int32)) b2_14 b7_14 T63.heap n0 (Nat.le_trans Z0 K63.1) G82 G83 Ac80 G84 (by simpa using hv2) (by rw [hv3]; simp <;> omega) (by simp; omega)) 0 (by decide) (by decide) eq78 (by decide) (by decide) (g := (mkF m 227 #[.val (.int p0), .val (.int p1), .val (.int p2), .val (.int p3), .val (.int p4), .val (.int p5), .val (.int l0), .val (.int l1), .val (.int l2), .val (.ref br_1), .val (.ref br_2), .val (.ref br_4), .val (.ref b8), .val (.int (1 : Int32))] [(.int (2 : Int32)), (.ref b8)])) rfl (by rw [hml']; rfl) (argsL := [(.int (2 : Int32))]) (rest := []) rfl (lenOf own_pd_I__I_318 rfl) rfl (by show 2 * 0 + _ ≤ _; exact Nat.le_of_eq rfl) (hb hby at_227) (fun r81 T81 L81 X81 hQ81 => ?_)
      obtain ⟨br_81, rfl, Nq81, Kq81, szq_br_81, low_br_81, f0_81⟩ := hQ81
      have N81 := Fr.app N78 Nq81
      have ne86 : b2_14 ≠ br_81 := Nat.ne_of_lt (Nat.lt_of_lt_of_le Ac80.lt szq_br_81)
      have ne87 : b7_14 ≠ br_81 := Nat.ne_of_lt (Nat.lt_of_lt_of_le G84.lt szq_br_81)
      have ne88 : b8 ≠ br_81 := Nat.ne_of_lt (Nat.lt_of_lt_of_le G85.lt szq_br_81)
      have G89 := (G71.keep Kq63 nin0)
      have ne90 : br_1 ≠ br_81 := Nat.ne_of_lt (Nat.lt_of_lt_of_le G89.lt szq_br_81)
      have G91 := (G73.keep Kq63 nin0)
      have ne92 : br_2 ≠ br_81 := Nat.ne_of_lt (Nat.lt_of_lt_of_le G91.lt szq_br_81)
      have G93 := (G75.keep Kq63 nin0)
      have ne94 : br_4 ≠ br_81 := Nat.ne_of_lt (Nat.lt_of_lt_of_le G93.lt szq_br_81)
      have G95 := (f0_50.keep Kq63 nin0)
      have ne96 : br_50 ≠ br_81 := Nat.ne_of_lt (Nat.lt_of_lt_of_le G95.lt szq_br_81)
      have ne97 : br_63 ≠ br_81 := Nat.ne_of_lt (Nat.lt_of_lt_of_le f0_63.lt szq_br_81)
      have sz_br_81 := Nat.le_trans K63.1 szq_br_81
      have K81 := Keep.trans K63 Kq81 all0
      show own_End p e below P (T81.setTop (mkF m 230 #[.val (.int p0), .val (.int p1), .val (.int p2), .val (.int p3), .val (.int p4), .val (.int p5), .val (.int l0), .val (.int l1), .val (.int l2), .val (.ref br_1), .val (.ref br_2), .val (.ref br_4), .val (.ref b8), .val (.int (1 : Int32))] [(.ref br_81)]))
      refine own_st (fun _ => XS.iload X81.here hx rfl (hb hby at_230) rfl) ?_
      show own_End p e below P (T81.setTop (mkF m 232 #[.val (.int p0), .val (.int p1), .val (.int p2), .val (.int p3), .val (.int p4), .val (.int p5), .val (.int l0), .val (.int l1), .val (.int l2), .val (.ref br_1), .val (.ref br_2), .val (.ref br_4), .val (.ref b8), .val (.int (1 : Int32))] [(.int l2), (.ref br_81)]))
      refine own_st (fun _ => XS.iload X81.here hx rfl (hb hby at_232) rfl) ?_
      show own_End p e below P (T81.setTop (mkF m 234 #[.val (.int p0), .val (.int p1), .val (.int p2), .val (.int p3), .val (.int p4), .val (.int p5), .val (.int l0), .val (.int l1), .val (.int l2), .val (.ref br_1), .val (.ref br_2), .val (.ref br_4), .val (.ref b8), .val (.int (1 : Int32))] [(.int p5), (.int l2), (.ref br_81)]))
      refine own_st (fun _ => XS.iload X81.here hx rfl (hb hby at_234) rfl) ?_
      show own_End p e below P (T81.setTop (mkF m 236 #[.val (.int p0), .val (.int p1), .val (.int p2), .val (.int p3), .val (.int p4), .val (.int p5), .val (.int l0), .val (.int l1), .val (.int l2), .val (.ref br_1), .val (.ref br_2), .val (.ref br_4), .val (.ref b8), .val (.int (1 : Int32))] [(.int p5), (.int p5), (.int l2), (.ref br_81)]))
      refine own_st (fun _ => XS.iconst X81.here hx rfl (hb hby at_236)) ?_
      show own_End p e below P (T81.setTop (mkF m 237 #[.val (.int p0), .val (.int p1), .val (.int p2), .val (.int p3), .val (.int p4), .val (.int p5), .val (.int l0), .val (.int l1), .val (.int l2), .val (.ref br_1), .val (.ref br_2), .val (.ref br_4), .val (.ref b8), .val (.int (1 : Int32))] [(.int (-1 : Int32)), (.int p5), (.int p5), (.int l2), (.ref br_81)]))
      refine own_st (fun _ => XS.ixor X81.here hx rfl (hb hby at_237) rfl) ?_
      show own_End p e below P (T81.setTop (mkF m 238 #[.val (.int p0), .val (.int p1), .val (.int p2), .val (.int p3), .val (.int p4), .val (.int p5), .val (.int l0), .val (.int l1), .val (.int l2), .val (.ref br_1), .val (.ref br_2), .val (.ref br_4), .val (.ref b8), .val (.int (1 : Int32))] [(.int (p5 ^^^ (-1 : Int32))), (.int p5), (.int l2), (.ref br_81)]))
      rw [← e_f]
      show own_End p e below P (T81.setTop (mkF m 238 #[.val (.int p0), .val (.int p1), .val (.int p2), .val (.int p3), .val (.int p4), .val (.int p5), .val (.int l0), .val (.int l1), .val (.int l2), .val (.ref br_1), .val (.ref br_2), .val (.ref br_4), .val (.ref b8), .val (.int (1 : Int32))] [(.int f), (.int p5), (.int l2), (.ref br_81)]))
      refine own_callS X81 hx hZ (y := (⟨"com/example/ruangwaktu/ruangwaktu/exam/EnrolmentsAddPinLaw", "same", "([IIII)Z"⟩ : MethodName)) hown (hw _ (List.mem_of_getElem? (i := 57) rfl)) (hw _ (List.mem_of_getElem? (i := 58) rfl)) (hw _ (List.mem_of_getElem? (i := 2) rfl)) (hw _ (List.mem_of_getElem? (i := 59) rfl)) (by decide) (own_msame l Z a0 hw [] br_81 l2 p5 f c2 T81.heap n0 (Nat.le_trans Z0 K81.1) f0_81 hl2 hm2) 0 (by decide) (by decide) rfl (by decide) (by decide) (g := (mkF m 238 #[.val (.int p0), .val (.int p1), .val (.int p2), .val (.int p3), .val (.int p4), .val (.int p5), .val (.int l0), .val (.int l1), .val (.int l2), .val (.ref br_1), .val (.ref br_2), .val (.ref br_4), .val (.ref b8), .val (.int (1 : Int32))] [(.int f), (.int p5), (.int l2), (.ref br_81)])) rfl (by rw [hml']; rfl) (argsL := [(.ref br_81), (.int l2), (.int p5), (.int f)]) (rest := []) rfl (lenOf own_pd_IIII_Z_554 rfl) rfl (by show 2 * 0 + _ ≤ _; exact Nat.le_of_eq rfl) (hb hby at_238) (fun r98 T98 L98 X98 hQ98 => ?_)
      obtain ⟨rfl, Nq98, eq98⟩ := hQ98
      have N98 := Fr.app N81 Nq98
      show own_End p e below P (T98.setTop (mkF m 241 #[.val (.int p0), .val (.int p1), .val (.int p2), .val (.int p3), .val (.int p4), .val (.int p5), .val (.int l0), .val (.int l1), .val (.int l2), .val (.ref br_1), .val (.ref br_2), .val (.ref br_4), .val (.ref b8), .val (.int (1 : Int32))] [(.int (1 : Int32))]))
      refine own_st (fun _ => XS.ifNo X98.here hx rfl (hb hby at_241) rfl ((if0 _ _).trans (feq (by decide : ¬ ((1 : Int32) = (0 : Int32)))).1)) ?_
      show own_End p e below P (T98.setTop (mkF m 244 #[.val (.int p0), .val (.int p1), .val (.int p2), .val (.int p3), .val (.int p4), .val (.int p5), .val (.int l0), .val (.int l1), .val (.int l2), .val (.ref br_1), .val (.ref br_2), .val (.ref br_4), .val (.ref b8), .val (.int (1 : Int32))] []))
      refine own_st (fun _ => XS.iconst X98.here hx rfl (hb hby at_244)) ?_
      show own_End p e below P (T98.setTop (mkF m 245 #[.val (.int p0), .val (.int p1), .val (.int p2), .val (.int p3), .val (.int p4), .val (.int p5), .val (.int l0), .val (.int l1), .val (.int l2), .val (.ref br_1), .val (.ref br_2), .val (.ref br_4), .val (.ref b8), .val (.int (1 : Int32))] [(.int (1 : Int32))]))
      refine own_st (fun _ => XS.goto X98.here hx rfl (pc0 := 245) (pc' := 249) rfl (hb hby at_245) (by decide) (by decide)) ?_
      show own_End p e below P (T98.setTop (mkF m 249 #[.val (.int p0), .val (.int p1), .val (.int p2), .val (.int p3), .val (.int p4), .val (.int p5), .val (.int l0), .val (.int l1), .val (.int l2), .val (.ref br_1), .val (.ref br_2), .val (.ref br_4), .val (.ref b8), .val (.int (1 : Int32))] [(.int (1 : Int32))]))
      refine own_st (fun _ => XS.istore X98.here hx rfl (hb hby at_249) rfl (l' := #[.val (.int p0), .val (.int p1), .val (.int p2), .val (.int p3), .val (.int p4), .val (.int p5), .val (.int l0), .val (.int l1), .val (.int l2), .val (.ref br_1), .val (.ref br_2), .val (.ref br_4), .val (.ref b8), .val (.int (1 : Int32))]) rfl) ?_
      show own_End p e below P (T98.setTop (mkF m 251 #[.val (.int p0), .val (.int p1), .val (.int p2), .val (.int p3), .val (.int p4), .val (.int p5), .val (.int l0), .val (.int l1), .val (.int l2), .val (.ref br_1), .val (.ref br_2), .val (.ref br_4), .val (.ref b8), .val (.int (1 : Int32))] []))
      refine own_st (fun _ => XS.iload X98.here hx rfl (hb hby at_251) rfl) ?_
      show own_End p e below P (T98.setTop (mkF m 253 #[.val (.int p0), .val (.int p1), .val (.int p2), .val (.int p3), .val (.int p4), .val (.int p5), .val (.int l0), .val (.int l1), .val (.int l2), .val (.ref br_1), .val (.ref br_2), .val (.ref br_4), .val (.ref b8), .val (.int (1 : Int32))] [(.int (1 : Int32))]))
      exact own_retN X98 hx hlk hP (t := .boolean) (by simp) hrt (hb hby at_253) (by decide) (by decide) ⟨rfl, N98⟩
    · refine own_st (fun _ => XS.icmpYes X37.here hx rfl (pc0 := 119) (pc' := 130) rfl (hb hby at_119) rfl (flt hc38).2.2.2 (by decide) (by decide)) ?_
      show own_End p e below P (T37.setTop (mkF m 130 #[.val (.int p0), .val (.int p1), .val (.int p2), .val (.int p3), .val (.int p4), .val (.int p5), .val (.int l0), .val (.int l1), .val (.int l2), .val (.ref br_1), .val (.ref br_2), .val (.ref br_4), .val (.ref b8), .unset] []))
      refine own_st (fun _ => XS.aload X37.here hx rfl (hb hby at_130) rfl rfl) ?_
      show own_End p e below P (T37.setTop (mkF m 132 #[.val (.int p0), .val (.int p1), .val (.int p2), .val (.int p3), .val (.int p4), .val (.int p5), .val (.int l0), .val (.int l1), .val (.int l2), .val (.ref br_1), .val (.ref br_2), .val (.ref br_4), .val (.ref b8), .unset] [(.ref b8)]))
      have G100 := (f3_32.other W37 (Or.inl (Ne.symm ne9)))
      have G101 := (f0_32.wr W37)
      refine own_callV X37 hx hZ (y := (⟨"com/example/ruangwaktu/ruangwaktu/exam/Enrolments", "students", "()I"⟩ : MethodName)) (z := (⟨"com/example/ruangwaktu/ruangwaktu/exam/Enrolments", "students", "()I"⟩ : MethodName)) hown (hw _ (List.mem_of_getElem? (i := 29) rfl)) (hw _ (List.mem_of_getElem? (i := 30) rfl)) (notFace_of_selects (args := #[]) (mvT hZ (hw _ (List.mem_of_getElem? (i := 32) rfl)))) (hw _ (List.mem_of_getElem? (i := 32) rfl)) (hw _ (List.mem_of_getElem? (i := 31) rfl)) (hw _ (List.mem_of_getElem? (i := 7) rfl)) (hw _ (List.mem_of_getElem? (i := 33) rfl)) (by decide) G101 (own_mstudents l Z a0 hw [] b8  h37 n0 (Nat.le_trans Z0 K37.1) G100) 0 (by decide) (by decide) e37 (by decide) (by decide) (g := (mkF m 132 #[.val (.int p0), .val (.int p1), .val (.int p2), .val (.int p3), .val (.int p4), .val (.int p5), .val (.int l0), .val (.int l1), .val (.int l2), .val (.ref br_1), .val (.ref br_2), .val (.ref br_4), .val (.ref b8), .unset] [(.ref b8)])) rfl (by rw [hml']; rfl) (argsL := []) (rest := []) rfl (lenOf own_pd_I_154 rfl) rfl (by show 2 * 0 + _ ≤ _; exact Nat.le_of_eq rfl) (hb hby at_132) (fun r99 T99 L99 X99 hQ99 => ?_)
      obtain ⟨rfl, Nq99, eq99⟩ := hQ99
      have N99 := Fr.app N37 Nq99
      show own_End p e below P (T99.setTop (mkF m 135 #[.val (.int p0), .val (.int p1), .val (.int p2), .val (.int p3), .val (.int p4), .val (.int p5), .val (.int l0), .val (.int l1), .val (.int l2), .val (.ref br_1), .val (.ref br_2), .val (.ref br_4), .val (.ref b8), .unset] [(.int (3 : Int32))]))
      refine own_st (fun _ => XS.iconst X99.here hx rfl (hb hby at_135)) ?_
      show own_End p e below P (T99.setTop (mkF m 136 #[.val (.int p0), .val (.int p1), .val (.int p2), .val (.int p3), .val (.int p4), .val (.int p5), .val (.int l0), .val (.int l1), .val (.int l2), .val (.ref br_1), .val (.ref br_2), .val (.ref br_4), .val (.ref b8), .unset] [(.int (3 : Int32)), (.int (3 : Int32))]))
      refine own_st (fun _ => XS.icmpNo X99.here hx rfl (hb hby at_136) rfl (teq (by decide : (3 : Int32) = (3 : Int32))).2) ?_
      show own_End p e below P (T99.setTop (mkF m 139 #[.val (.int p0), .val (.int p1), .val (.int p2), .val (.int p3), .val (.int p4), .val (.int p5), .val (.int l0), .val (.int l1), .val (.int l2), .val (.ref br_1), .val (.ref br_2), .val (.ref br_4), .val (.ref b8), .unset] []))
      refine own_st (fun _ => XS.aload X99.here hx rfl (hb hby at_139) rfl rfl) ?_
      show own_End p e below P (T99.setTop (mkF m 141 #[.val (.int p0), .val (.int p1), .val (.int p2), .val (.int p3), .val (.int p4), .val (.int p5), .val (.int l0), .val (.int l1), .val (.int l2), .val (.ref br_1), .val (.ref br_2), .val (.ref br_4), .val (.ref b8), .unset] [(.ref b8)]))
      have G103 := (f2_32.other W37 (Or.inl (Ne.symm ne9)))
      have G104 := (Au34.other W37 (Ne.symm ne19))
      refine own_callV X99 hx hZ (y := (⟨"com/example/ruangwaktu/ruangwaktu/exam/Enrolments", "total", "()I"⟩ : MethodName)) (z := (⟨"com/example/ruangwaktu/ruangwaktu/exam/Enrolments", "total", "()I"⟩ : MethodName)) hown (hw _ (List.mem_of_getElem? (i := 34) rfl)) (hw _ (List.mem_of_getElem? (i := 35) rfl)) (notFace_of_selects (args := #[]) (mvT hZ (hw _ (List.mem_of_getElem? (i := 37) rfl)))) (hw _ (List.mem_of_getElem? (i := 37) rfl)) (hw _ (List.mem_of_getElem? (i := 36) rfl)) (hw _ (List.mem_of_getElem? (i := 7) rfl)) (hw _ (List.mem_of_getElem? (i := 38) rfl)) (by decide) G101 (own_mtotal l Z a0 hw [] b8 u1 u2 u3 b7_14 h37 n0 (Nat.le_trans Z0 K37.1) G103 G100 G104) 0 (by decide) (by decide) eq99 (by decide) (by decide) (g := (mkF m 141 #[.val (.int p0), .val (.int p1), .val (.int p2), .val (.int p3), .val (.int p4), .val (.int p5), .val (.int l0), .val (.int l1), .val (.int l2), .val (.ref br_1), .val (.ref br_2), .val (.ref br_4), .val (.ref b8), .unset] [(.ref b8)])) rfl (by rw [hml']; rfl) (argsL := []) (rest := []) rfl (lenOf own_pd_I_154 rfl) rfl (by show 2 * 0 + _ ≤ _; exact Nat.le_of_eq rfl) (hb hby at_141) (fun r102 T102 L102 X102 hQ102 => ?_)
      obtain ⟨rfl, Nq102, eq102⟩ := hQ102
      have N102 := Fr.app N99 Nq102
      show own_End p e below P (T102.setTop (mkF m 144 #[.val (.int p0), .val (.int p1), .val (.int p2), .val (.int p3), .val (.int p4), .val (.int p5), .val (.int l0), .val (.int l1), .val (.int l2), .val (.ref br_1), .val (.ref br_2), .val (.ref br_4), .val (.ref b8), .unset] [(.int (own_ftotal u1 u2 u3))]))
      refine own_st (fun _ => XS.iload X102.here hx rfl (hb hby at_144) rfl) ?_
      show own_End p e below P (T102.setTop (mkF m 146 #[.val (.int p0), .val (.int p1), .val (.int p2), .val (.int p3), .val (.int p4), .val (.int p5), .val (.int l0), .val (.int l1), .val (.int l2), .val (.ref br_1), .val (.ref br_2), .val (.ref br_4), .val (.ref b8), .unset] [(.int l0), (.int (own_ftotal u1 u2 u3))]))
      refine own_st (fun _ => XS.iload X102.here hx rfl (hb hby at_146) rfl) ?_
      show own_End p e below P (T102.setTop (mkF m 148 #[.val (.int p0), .val (.int p1), .val (.int p2), .val (.int p3), .val (.int p4), .val (.int p5), .val (.int l0), .val (.int l1), .val (.int l2), .val (.ref br_1), .val (.ref br_2), .val (.ref br_4), .val (.ref b8), .unset] [(.int l1), (.int l0), (.int (own_ftotal u1 u2 u3))]))
      refine own_st (fun _ => XS.iadd X102.here hx rfl (hb hby at_148) rfl) ?_
      show own_End p e below P (T102.setTop (mkF m 149 #[.val (.int p0), .val (.int p1), .val (.int p2), .val (.int p3), .val (.int p4), .val (.int p5), .val (.int l0), .val (.int l1), .val (.int l2), .val (.ref br_1), .val (.ref br_2), .val (.ref br_4), .val (.ref b8), .unset] [(.int (l0 + l1)), (.int (own_ftotal u1 u2 u3))]))
      refine own_st (fun _ => XS.iload X102.here hx rfl (hb hby at_149) rfl) ?_
      show own_End p e below P (T102.setTop (mkF m 151 #[.val (.int p0), .val (.int p1), .val (.int p2), .val (.int p3), .val (.int p4), .val (.int p5), .val (.int l0), .val (.int l1), .val (.int l2), .val (.ref br_1), .val (.ref br_2), .val (.ref br_4), .val (.ref b8), .unset] [(.int l2), (.int (l0 + l1)), (.int (own_ftotal u1 u2 u3))]))
      refine own_st (fun _ => XS.iadd X102.here hx rfl (hb hby at_151) rfl) ?_
      show own_End p e below P (T102.setTop (mkF m 152 #[.val (.int p0), .val (.int p1), .val (.int p2), .val (.int p3), .val (.int p4), .val (.int p5), .val (.int l0), .val (.int l1), .val (.int l2), .val (.ref br_1), .val (.ref br_2), .val (.ref br_4), .val (.ref b8), .unset] [(.int ((l0 + l1) + l2)), (.int (own_ftotal u1 u2 u3))]))
      have hc105 : (own_ftotal u1 u2 u3) = ((l0 + l1) + l2) := by exact own_tot hv3 (by rw [(own_add32 (own_add32 hl0 hl1 (by omega)) hl2 (by omega))]; simp <;> omega)
      refine own_st (fun _ => XS.icmpNo X102.here hx rfl (hb hby at_152) rfl (teq hc105).2) ?_
      show own_End p e below P (T102.setTop (mkF m 155 #[.val (.int p0), .val (.int p1), .val (.int p2), .val (.int p3), .val (.int p4), .val (.int p5), .val (.int l0), .val (.int l1), .val (.int l2), .val (.ref br_1), .val (.ref br_2), .val (.ref br_4), .val (.ref b8), .unset] []))
      refine own_st (fun _ => XS.iconst X102.here hx rfl (hb hby at_155)) ?_
      show own_End p e below P (T102.setTop (mkF m 156 #[.val (.int p0), .val (.int p1), .val (.int p2), .val (.int p3), .val (.int p4), .val (.int p5), .val (.int l0), .val (.int l1), .val (.int l2), .val (.ref br_1), .val (.ref br_2), .val (.ref br_4), .val (.ref b8), .unset] [(.int (1 : Int32))]))
      refine own_st (fun _ => XS.goto X102.here hx rfl (pc0 := 156) (pc' := 160) rfl (hb hby at_156) (by decide) (by decide)) ?_
      show own_End p e below P (T102.setTop (mkF m 160 #[.val (.int p0), .val (.int p1), .val (.int p2), .val (.int p3), .val (.int p4), .val (.int p5), .val (.int l0), .val (.int l1), .val (.int l2), .val (.ref br_1), .val (.ref br_2), .val (.ref br_4), .val (.ref b8), .unset] [(.int (1 : Int32))]))
      refine own_st (fun _ => XS.istore X102.here hx rfl (hb hby at_160) rfl (l' := #[.val (.int p0), .val (.int p1), .val (.int p2), .val (.int p3), .val (.int p4), .val (.int p5), .val (.int l0), .val (.int l1), .val (.int l2), .val (.ref br_1), .val (.ref br_2), .val (.ref br_4), .val (.ref b8), .val (.int (1 : Int32))]) rfl) ?_
      show own_End p e below P (T102.setTop (mkF m 162 #[.val (.int p0), .val (.int p1), .val (.int p2), .val (.int p3), .val (.int p4), .val (.int p5), .val (.int l0), .val (.int l1), .val (.int l2), .val (.ref br_1), .val (.ref br_2), .val (.ref br_4), .val (.ref b8), .val (.int (1 : Int32))] []))
      refine own_st (fun _ => XS.iload X102.here hx rfl (hb hby at_162) rfl) ?_
      show own_End p e below P (T102.setTop (mkF m 164 #[.val (.int p0), .val (.int p1), .val (.int p2), .val (.int p3), .val (.int p4), .val (.int p5), .val (.int l0), .val (.int l1), .val (.int l2), .val (.ref br_1), .val (.ref br_2), .val (.ref br_4), .val (.ref b8), .val (.int (1 : Int32))] [(.int (1 : Int32))]))
      refine own_st (fun _ => XS.ifNo X102.here hx rfl (hb hby at_164) rfl ((if0 _ _).trans (feq (by decide : ¬ ((1 : Int32) = (0 : Int32)))).1)) ?_
      show own_End p e below P (T102.setTop (mkF m 167 #[.val (.int p0), .val (.int p1), .val (.int p2), .val (.int p3), .val (.int p4), .val (.int p5), .val (.int l0), .val (.int l1), .val (.int l2), .val (.ref br_1), .val (.ref br_2), .val (.ref br_4), .val (.ref b8), .val (.int (1 : Int32))] []))
      refine own_st (fun _ => XS.aload X102.here hx rfl (hb hby at_167) rfl rfl) ?_
      show own_End p e below P (T102.setTop (mkF m 169 #[.val (.int p0), .val (.int p1), .val (.int p2), .val (.int p3), .val (.int p4), .val (.int p5), .val (.int l0), .val (.int l1), .val (.int l2), .val (.ref br_1), .val (.ref br_2), .val (.ref br_4), .val (.ref b8), .val (.int (1 : Int32))] [(.ref b8)]))
      refine own_st (fun _ => XS.iconst X102.here hx rfl (hb hby at_169)) ?_
      show own_End p e below P (T102.setTop (mkF m 170 #[.val (.int p0), .val (.int p1), .val (.int p2), .val (.int p3), .val (.int p4), .val (.int p5), .val (.int l0), .val (.int l1), .val (.int l2), .val (.ref br_1), .val (.ref br_2), .val (.ref br_4), .val (.ref b8), .val (.int (1 : Int32))] [(.int (0 : Int32)), (.ref b8)]))
      have G106 := (f4_32.other W37 (Ne.symm ne18))
      have Ac107 : own_IA Z h37 b2_14 (([] : List Int32) ++ ((own_mk l0 p1 p2) ++ ((own_mk l1 p3 p4) ++ ((own_mk l2 p5 f) ++ (List.replicate ((((c0 + c1 + c2) - (own_mk l0 p1 p2).length) - (own_mk l1 p3 p4).length) - (own_mk l2 p5 f).length) (0 : Int32)))))) := by simpa only [List.append_assoc, List.nil_append, List.append_nil] using G106
      have G109 := (f1_32.other W37 (Or.inl (Ne.symm ne9)))
      refine own_callV X102 hx hZ (y := (⟨"com/example/ruangwaktu/ruangwaktu/exam/Enrolments", "examsOf", "(I)[I"⟩ : MethodName)) (z := (⟨"com/example/ruangwaktu/ruangwaktu/exam/Enrolments", "examsOf", "(I)[I"⟩ : MethodName)) hown (hw _ (List.mem_of_getElem? (i := 39) rfl)) (hw _ (List.mem_of_getElem? (i := 40) rfl)) (notFace_of_selects (args := #[]) (mvT hZ (hw _ (List.mem_of_getElem? (i := 42) rfl)))) (hw _ (List.mem_of_getElem? (i := 42) rfl)) (hw _ (List.mem_of_getElem? (i := 41) rfl)) (hw _ (List.mem_of_getElem? (i := 7) rfl)) (hw _ (List.mem_of_getElem? (i := 43) rfl)) (by decide) G101 (own_mex0 l Z a0 hw [] b8 u1 u2 u3 ([] : List Int32) (own_mk l0 p1 p2) ((own_mk l1 p3 p4) ++ ((own_mk l2 p5 f) ++ (List.replicate ((((c0 + c1 + c2) - (own_mk l0 p1 p2).length) - (own_mk l1 p3 p4).length) - (own_mk l2 p5 f).length) (0 : Int32)))) b2_14 b7_14 h37 n0 (Nat.le_trans Z0 K37.1) G109 G103 Ac107 G104 own_z32 (by rw [hv1]; simp <;> omega) (by simp; omega)) 0 (by decide) (by decide) eq102 (by decide) (by decide) (g := (mkF m 170 #[.val (.int p0), .val (.int p1), .val (.int p2), .val (.int p3), .val (.int p4), .val (.int p5), .val (.int l0), .val (.int l1), .val (.int l2), .val (.ref br_1), .val (.ref br_2), .val (.ref br_4), .val (.ref b8), .val (.int (1 : Int32))] [(.int (0 : Int32)), (.ref b8)])) rfl (by rw [hml']; rfl) (argsL := [(.int (0 : Int32))]) (rest := []) rfl (lenOf own_pd_I__I_318 rfl) rfl (by show 2 * 0 + _ ≤ _; exact Nat.le_of_eq rfl) (hb hby at_170) (fun r108 T108 L108 X108 hQ108 => ?_)
      obtain ⟨br_108, rfl, Nq108, Kq108, szq_br_108, low_br_108, f0_108⟩ := hQ108
      have N108 := Fr.app N102 Nq108
      have ne110 : b2_14 ≠ br_108 := Nat.ne_of_lt (Nat.lt_of_lt_of_le Ac107.lt szq_br_108)
      have ne111 : b7_14 ≠ br_108 := Nat.ne_of_lt (Nat.lt_of_lt_of_le G104.lt szq_br_108)
      have ne112 : b8 ≠ br_108 := Nat.ne_of_lt (Nat.lt_of_lt_of_le G101.lt szq_br_108)
      have ne113 : br_1 ≠ br_108 := Nat.ne_of_lt (Nat.lt_of_lt_of_le A37.lt szq_br_108)
      have G114 := (((G30.keep Kq29 (ninS ne11 (ninS ne21 (ninS ne22 nin0)))).keep Kq32 (ninS ne11 (ninS ne21 (ninS ne22 nin0)))).other W37 (Ne.symm ne3))
      have ne115 : br_2 ≠ br_108 := Nat.ne_of_lt (Nat.lt_of_lt_of_le G114.lt szq_br_108)
      have G116 := ((G33.keep Kq32 (ninS ne13 (ninS ne24 (ninS ne25 nin0)))).other W37 (Ne.symm ne6))
      have ne117 : br_4 ≠ br_108 := Nat.ne_of_lt (Nat.lt_of_lt_of_le G116.lt szq_br_108)
      have sz_br_108 := Nat.le_trans K37.1 szq_br_108
      have K108 := Keep.trans K37 Kq108 all0
      show own_End p e below P (T108.setTop (mkF m 173 #[.val (.int p0), .val (.int p1), .val (.int p2), .val (.int p3), .val (.int p4), .val (.int p5), .val (.int l0), .val (.int l1), .val (.int l2), .val (.ref br_1), .val (.ref br_2), .val (.ref br_4), .val (.ref b8), .val (.int (1 : Int32))] [(.ref br_108)]))
      refine own_st (fun _ => XS.iload X108.here hx rfl (hb hby at_173) rfl) ?_
      show own_End p e below P (T108.setTop (mkF m 175 #[.val (.int p0), .val (.int p1), .val (.int p2), .val (.int p3), .val (.int p4), .val (.int p5), .val (.int l0), .val (.int l1), .val (.int l2), .val (.ref br_1), .val (.ref br_2), .val (.ref br_4), .val (.ref b8), .val (.int (1 : Int32))] [(.int l0), (.ref br_108)]))
      refine own_st (fun _ => XS.iloadN X108.here hx rfl (hb hby at_175) rfl) ?_
      show own_End p e below P (T108.setTop (mkF m 176 #[.val (.int p0), .val (.int p1), .val (.int p2), .val (.int p3), .val (.int p4), .val (.int p5), .val (.int l0), .val (.int l1), .val (.int l2), .val (.ref br_1), .val (.ref br_2), .val (.ref br_4), .val (.ref b8), .val (.int (1 : Int32))] [(.int p1), (.int l0), (.ref br_108)]))
      refine own_st (fun _ => XS.iloadN X108.here hx rfl (hb hby at_176) rfl) ?_
      show own_End p e below P (T108.setTop (mkF m 177 #[.val (.int p0), .val (.int p1), .val (.int p2), .val (.int p3), .val (.int p4), .val (.int p5), .val (.int l0), .val (.int l1), .val (.int l2), .val (.ref br_1), .val (.ref br_2), .val (.ref br_4), .val (.ref b8), .val (.int (1 : Int32))] [(.int p2), (.int p1), (.int l0), (.ref br_108)]))
      refine own_callS X108 hx hZ (y := (⟨"com/example/ruangwaktu/ruangwaktu/exam/EnrolmentsAddPinLaw", "same", "([IIII)Z"⟩ : MethodName)) hown (hw _ (List.mem_of_getElem? (i := 57) rfl)) (hw _ (List.mem_of_getElem? (i := 58) rfl)) (hw _ (List.mem_of_getElem? (i := 2) rfl)) (hw _ (List.mem_of_getElem? (i := 59) rfl)) (by decide) (own_msame l Z a0 hw [] br_108 l0 p1 p2 c0 T108.heap n0 (Nat.le_trans Z0 K108.1) f0_108 hl0 hm0) 0 (by decide) (by decide) rfl (by decide) (by decide) (g := (mkF m 177 #[.val (.int p0), .val (.int p1), .val (.int p2), .val (.int p3), .val (.int p4), .val (.int p5), .val (.int l0), .val (.int l1), .val (.int l2), .val (.ref br_1), .val (.ref br_2), .val (.ref br_4), .val (.ref b8), .val (.int (1 : Int32))] [(.int p2), (.int p1), (.int l0), (.ref br_108)])) rfl (by rw [hml']; rfl) (argsL := [(.ref br_108), (.int l0), (.int p1), (.int p2)]) (rest := []) rfl (lenOf own_pd_IIII_Z_554 rfl) rfl (by show 2 * 0 + _ ≤ _; exact Nat.le_of_eq rfl) (hb hby at_177) (fun r118 T118 L118 X118 hQ118 => ?_)
      obtain ⟨rfl, Nq118, eq118⟩ := hQ118
      have N118 := Fr.app N108 Nq118
      show own_End p e below P (T118.setTop (mkF m 180 #[.val (.int p0), .val (.int p1), .val (.int p2), .val (.int p3), .val (.int p4), .val (.int p5), .val (.int l0), .val (.int l1), .val (.int l2), .val (.ref br_1), .val (.ref br_2), .val (.ref br_4), .val (.ref b8), .val (.int (1 : Int32))] [(.int (1 : Int32))]))
      refine own_st (fun _ => XS.ifNo X118.here hx rfl (hb hby at_180) rfl ((if0 _ _).trans (feq (by decide : ¬ ((1 : Int32) = (0 : Int32)))).1)) ?_
      show own_End p e below P (T118.setTop (mkF m 183 #[.val (.int p0), .val (.int p1), .val (.int p2), .val (.int p3), .val (.int p4), .val (.int p5), .val (.int l0), .val (.int l1), .val (.int l2), .val (.ref br_1), .val (.ref br_2), .val (.ref br_4), .val (.ref b8), .val (.int (1 : Int32))] []))
      refine own_st (fun _ => XS.iconst X118.here hx rfl (hb hby at_183)) ?_
      show own_End p e below P (T118.setTop (mkF m 184 #[.val (.int p0), .val (.int p1), .val (.int p2), .val (.int p3), .val (.int p4), .val (.int p5), .val (.int l0), .val (.int l1), .val (.int l2), .val (.ref br_1), .val (.ref br_2), .val (.ref br_4), .val (.ref b8), .val (.int (1 : Int32))] [(.int (1 : Int32))]))
      refine own_st (fun _ => XS.goto X118.here hx rfl (pc0 := 184) (pc' := 188) rfl (hb hby at_184) (by decide) (by decide)) ?_
      show own_End p e below P (T118.setTop (mkF m 188 #[.val (.int p0), .val (.int p1), .val (.int p2), .val (.int p3), .val (.int p4), .val (.int p5), .val (.int l0), .val (.int l1), .val (.int l2), .val (.ref br_1), .val (.ref br_2), .val (.ref br_4), .val (.ref b8), .val (.int (1 : Int32))] [(.int (1 : Int32))]))
      refine own_st (fun _ => XS.istore X118.here hx rfl (hb hby at_188) rfl (l' := #[.val (.int p0), .val (.int p1), .val (.int p2), .val (.int p3), .val (.int p4), .val (.int p5), .val (.int l0), .val (.int l1), .val (.int l2), .val (.ref br_1), .val (.ref br_2), .val (.ref br_4), .val (.ref b8), .val (.int (1 : Int32))]) rfl) ?_
      show own_End p e below P (T118.setTop (mkF m 190 #[.val (.int p0), .val (.int p1), .val (.int p2), .val (.int p3), .val (.int p4), .val (.int p5), .val (.int l0), .val (.int l1), .val (.int l2), .val (.ref br_1), .val (.ref br_2), .val (.ref br_4), .val (.ref b8), .val (.int (1 : Int32))] []))
      refine own_st (fun _ => XS.iload X118.here hx rfl (hb hby at_190) rfl) ?_
      show own_End p e below P (T118.setTop (mkF m 192 #[.val (.int p0), .val (.int p1), .val (.int p2), .val (.int p3), .val (.int p4), .val (.int p5), .val (.int l0), .val (.int l1), .val (.int l2), .val (.ref br_1), .val (.ref br_2), .val (.ref br_4), .val (.ref b8), .val (.int (1 : Int32))] [(.int (1 : Int32))]))
      refine own_st (fun _ => XS.ifNo X118.here hx rfl (hb hby at_192) rfl ((if0 _ _).trans (feq (by decide : ¬ ((1 : Int32) = (0 : Int32)))).1)) ?_
      show own_End p e below P (T118.setTop (mkF m 195 #[.val (.int p0), .val (.int p1), .val (.int p2), .val (.int p3), .val (.int p4), .val (.int p5), .val (.int l0), .val (.int l1), .val (.int l2), .val (.ref br_1), .val (.ref br_2), .val (.ref br_4), .val (.ref b8), .val (.int (1 : Int32))] []))
      refine own_st (fun _ => XS.aload X118.here hx rfl (hb hby at_195) rfl rfl) ?_
      show own_End p e below P (T118.setTop (mkF m 197 #[.val (.int p0), .val (.int p1), .val (.int p2), .val (.int p3), .val (.int p4), .val (.int p5), .val (.int l0), .val (.int l1), .val (.int l2), .val (.ref br_1), .val (.ref br_2), .val (.ref br_4), .val (.ref b8), .val (.int (1 : Int32))] [(.ref b8)]))
      refine own_st (fun _ => XS.iconst X118.here hx rfl (hb hby at_197)) ?_
      show own_End p e below P (T118.setTop (mkF m 198 #[.val (.int p0), .val (.int p1), .val (.int p2), .val (.int p3), .val (.int p4), .val (.int p5), .val (.int l0), .val (.int l1), .val (.int l2), .val (.ref br_1), .val (.ref br_2), .val (.ref br_4), .val (.ref b8), .val (.int (1 : Int32))] [(.int (1 : Int32)), (.ref b8)]))
      have G119 := (Ac107.keep Kq108 nin0)
      have Ac120 : own_IA Z T108.heap b2_14 ((own_mk l0 p1 p2) ++ ((own_mk l1 p3 p4) ++ ((own_mk l2 p5 f) ++ (List.replicate ((((c0 + c1 + c2) - (own_mk l0 p1 p2).length) - (own_mk l1 p3 p4).length) - (own_mk l2 p5 f).length) (0 : Int32))))) := by simpa only [List.append_assoc, List.nil_append, List.append_nil] using G119
      have G122 := (G109.keep Kq108 nin0)
      have G123 := (G103.keep Kq108 nin0)
      have G124 := (G104.keep Kq108 nin0)
      have G125 := (G101.keep Kq108)
      refine own_callV X118 hx hZ (y := (⟨"com/example/ruangwaktu/ruangwaktu/exam/Enrolments", "examsOf", "(I)[I"⟩ : MethodName)) (z := (⟨"com/example/ruangwaktu/ruangwaktu/exam/Enrolments", "examsOf", "(I)[I"⟩ : MethodName)) hown (hw _ (List.mem_of_getElem? (i := 39) rfl)) (hw _ (List.mem_of_getElem? (i := 40) rfl)) (notFace_of_selects (args := #[]) (mvT hZ (hw _ (List.mem_of_getElem? (i := 42) rfl)))) (hw _ (List.mem_of_getElem? (i := 42) rfl)) (hw _ (List.mem_of_getElem? (i := 41) rfl)) (hw _ (List.mem_of_getElem? (i := 7) rfl)) (hw _ (List.mem_of_getElem? (i := 43) rfl)) (by decide) G125 (own_mex1 l Z a0 hw [] b8 u1 u2 u3 (own_mk l0 p1 p2) (own_mk l1 p3 p4) ((own_mk l2 p5 f) ++ (List.replicate ((((c0 + c1 + c2) - (own_mk l0 p1 p2).length) - (own_mk l1 p3 p4).length) - (own_mk l2 p5 f).length) (0 : Int32))) b2_14 b7_14 T108.heap n0 (Nat.le_trans Z0 K108.1) G122 G123 Ac120 G124 (by simpa using hv1) (by rw [hv2]; simp <;> omega) (by simp; omega)) 0 (by decide) (by decide) eq118 (by decide) (by decide) (g := (mkF m 198 #[.val (.int p0), .val (.int p1), .val (.int p2), .val (.int p3), .val (.int p4), .val (.int p5), .val (.int l0), .val (.int l1), .val (.int l2), .val (.ref br_1), .val (.ref br_2), .val (.ref br_4), .val (.ref b8), .val (.int (1 : Int32))] [(.int (1 : Int32)), (.ref b8)])) rfl (by rw [hml']; rfl) (argsL := [(.int (1 : Int32))]) (rest := []) rfl (lenOf own_pd_I__I_318 rfl) rfl (by show 2 * 0 + _ ≤ _; exact Nat.le_of_eq rfl) (hb hby at_198) (fun r121 T121 L121 X121 hQ121 => ?_)
      obtain ⟨br_121, rfl, Nq121, Kq121, szq_br_121, low_br_121, f0_121⟩ := hQ121
      have N121 := Fr.app N118 Nq121
      have ne126 : b2_14 ≠ br_121 := Nat.ne_of_lt (Nat.lt_of_lt_of_le Ac120.lt szq_br_121)
      have ne127 : b7_14 ≠ br_121 := Nat.ne_of_lt (Nat.lt_of_lt_of_le G124.lt szq_br_121)
      have ne128 : b8 ≠ br_121 := Nat.ne_of_lt (Nat.lt_of_lt_of_le G125.lt szq_br_121)
      have G129 := (A37.keep Kq108 nin0)
      have ne130 : br_1 ≠ br_121 := Nat.ne_of_lt (Nat.lt_of_lt_of_le G129.lt szq_br_121)
      have ne131 : br_108 ≠ br_121 := Nat.ne_of_lt (Nat.lt_of_lt_of_le f0_108.lt szq_br_121)
      have G132 := (G114.keep Kq108 nin0)
      have ne133 : br_2 ≠ br_121 := Nat.ne_of_lt (Nat.lt_of_lt_of_le G132.lt szq_br_121)
      have G134 := (G116.keep Kq108 nin0)
      have ne135 : br_4 ≠ br_121 := Nat.ne_of_lt (Nat.lt_of_lt_of_le G134.lt szq_br_121)
      have sz_br_121 := Nat.le_trans K108.1 szq_br_121
      have K121 := Keep.trans K108 Kq121 all0
      show own_End p e below P (T121.setTop (mkF m 201 #[.val (.int p0), .val (.int p1), .val (.int p2), .val (.int p3), .val (.int p4), .val (.int p5), .val (.int l0), .val (.int l1), .val (.int l2), .val (.ref br_1), .val (.ref br_2), .val (.ref br_4), .val (.ref b8), .val (.int (1 : Int32))] [(.ref br_121)]))
      refine own_st (fun _ => XS.iload X121.here hx rfl (hb hby at_201) rfl) ?_
      show own_End p e below P (T121.setTop (mkF m 203 #[.val (.int p0), .val (.int p1), .val (.int p2), .val (.int p3), .val (.int p4), .val (.int p5), .val (.int l0), .val (.int l1), .val (.int l2), .val (.ref br_1), .val (.ref br_2), .val (.ref br_4), .val (.ref b8), .val (.int (1 : Int32))] [(.int l1), (.ref br_121)]))
      refine own_st (fun _ => XS.iloadN X121.here hx rfl (hb hby at_203) rfl) ?_
      show own_End p e below P (T121.setTop (mkF m 204 #[.val (.int p0), .val (.int p1), .val (.int p2), .val (.int p3), .val (.int p4), .val (.int p5), .val (.int l0), .val (.int l1), .val (.int l2), .val (.ref br_1), .val (.ref br_2), .val (.ref br_4), .val (.ref b8), .val (.int (1 : Int32))] [(.int p3), (.int l1), (.ref br_121)]))
      refine own_st (fun _ => XS.iload X121.here hx rfl (hb hby at_204) rfl) ?_
      show own_End p e below P (T121.setTop (mkF m 206 #[.val (.int p0), .val (.int p1), .val (.int p2), .val (.int p3), .val (.int p4), .val (.int p5), .val (.int l0), .val (.int l1), .val (.int l2), .val (.ref br_1), .val (.ref br_2), .val (.ref br_4), .val (.ref b8), .val (.int (1 : Int32))] [(.int p4), (.int p3), (.int l1), (.ref br_121)]))
      refine own_callS X121 hx hZ (y := (⟨"com/example/ruangwaktu/ruangwaktu/exam/EnrolmentsAddPinLaw", "same", "([IIII)Z"⟩ : MethodName)) hown (hw _ (List.mem_of_getElem? (i := 57) rfl)) (hw _ (List.mem_of_getElem? (i := 58) rfl)) (hw _ (List.mem_of_getElem? (i := 2) rfl)) (hw _ (List.mem_of_getElem? (i := 59) rfl)) (by decide) (own_msame l Z a0 hw [] br_121 l1 p3 p4 c1 T121.heap n0 (Nat.le_trans Z0 K121.1) f0_121 hl1 hm1) 0 (by decide) (by decide) rfl (by decide) (by decide) (g := (mkF m 206 #[.val (.int p0), .val (.int p1), .val (.int p2), .val (.int p3), .val (.int p4), .val (.int p5), .val (.int l0), .val (.int l1), .val (.int l2), .val (.ref br_1), .val (.ref br_2), .val (.ref br_4), .val (.ref b8), .val (.int (1 : Int32))] [(.int p4), (.int p3), (.int l1), (.ref br_121)])) rfl (by rw [hml']; rfl) (argsL := [(.ref br_121), (.int l1), (.int p3), (.int p4)]) (rest := []) rfl (lenOf own_pd_IIII_Z_554 rfl) rfl (by show 2 * 0 + _ ≤ _; exact Nat.le_of_eq rfl) (hb hby at_206) (fun r136 T136 L136 X136 hQ136 => ?_)
      obtain ⟨rfl, Nq136, eq136⟩ := hQ136
      have N136 := Fr.app N121 Nq136
      show own_End p e below P (T136.setTop (mkF m 209 #[.val (.int p0), .val (.int p1), .val (.int p2), .val (.int p3), .val (.int p4), .val (.int p5), .val (.int l0), .val (.int l1), .val (.int l2), .val (.ref br_1), .val (.ref br_2), .val (.ref br_4), .val (.ref b8), .val (.int (1 : Int32))] [(.int (1 : Int32))]))
      refine own_st (fun _ => XS.ifNo X136.here hx rfl (hb hby at_209) rfl ((if0 _ _).trans (feq (by decide : ¬ ((1 : Int32) = (0 : Int32)))).1)) ?_
      show own_End p e below P (T136.setTop (mkF m 212 #[.val (.int p0), .val (.int p1), .val (.int p2), .val (.int p3), .val (.int p4), .val (.int p5), .val (.int l0), .val (.int l1), .val (.int l2), .val (.ref br_1), .val (.ref br_2), .val (.ref br_4), .val (.ref b8), .val (.int (1 : Int32))] []))
      refine own_st (fun _ => XS.iconst X136.here hx rfl (hb hby at_212)) ?_
      show own_End p e below P (T136.setTop (mkF m 213 #[.val (.int p0), .val (.int p1), .val (.int p2), .val (.int p3), .val (.int p4), .val (.int p5), .val (.int l0), .val (.int l1), .val (.int l2), .val (.ref br_1), .val (.ref br_2), .val (.ref br_4), .val (.ref b8), .val (.int (1 : Int32))] [(.int (1 : Int32))]))
      refine own_st (fun _ => XS.goto X136.here hx rfl (pc0 := 213) (pc' := 217) rfl (hb hby at_213) (by decide) (by decide)) ?_
      show own_End p e below P (T136.setTop (mkF m 217 #[.val (.int p0), .val (.int p1), .val (.int p2), .val (.int p3), .val (.int p4), .val (.int p5), .val (.int l0), .val (.int l1), .val (.int l2), .val (.ref br_1), .val (.ref br_2), .val (.ref br_4), .val (.ref b8), .val (.int (1 : Int32))] [(.int (1 : Int32))]))
      refine own_st (fun _ => XS.istore X136.here hx rfl (hb hby at_217) rfl (l' := #[.val (.int p0), .val (.int p1), .val (.int p2), .val (.int p3), .val (.int p4), .val (.int p5), .val (.int l0), .val (.int l1), .val (.int l2), .val (.ref br_1), .val (.ref br_2), .val (.ref br_4), .val (.ref b8), .val (.int (1 : Int32))]) rfl) ?_
      show own_End p e below P (T136.setTop (mkF m 219 #[.val (.int p0), .val (.int p1), .val (.int p2), .val (.int p3), .val (.int p4), .val (.int p5), .val (.int l0), .val (.int l1), .val (.int l2), .val (.ref br_1), .val (.ref br_2), .val (.ref br_4), .val (.ref b8), .val (.int (1 : Int32))] []))
      refine own_st (fun _ => XS.iload X136.here hx rfl (hb hby at_219) rfl) ?_
      show own_End p e below P (T136.setTop (mkF m 221 #[.val (.int p0), .val (.int p1), .val (.int p2), .val (.int p3), .val (.int p4), .val (.int p5), .val (.int l0), .val (.int l1), .val (.int l2), .val (.ref br_1), .val (.ref br_2), .val (.ref br_4), .val (.ref b8), .val (.int (1 : Int32))] [(.int (1 : Int32))]))
      refine own_st (fun _ => XS.ifNo X136.here hx rfl (hb hby at_221) rfl ((if0 _ _).trans (feq (by decide : ¬ ((1 : Int32) = (0 : Int32)))).1)) ?_
      show own_End p e below P (T136.setTop (mkF m 224 #[.val (.int p0), .val (.int p1), .val (.int p2), .val (.int p3), .val (.int p4), .val (.int p5), .val (.int l0), .val (.int l1), .val (.int l2), .val (.ref br_1), .val (.ref br_2), .val (.ref br_4), .val (.ref b8), .val (.int (1 : Int32))] []))
      refine own_st (fun _ => XS.aload X136.here hx rfl (hb hby at_224) rfl rfl) ?_
      show own_End p e below P (T136.setTop (mkF m 226 #[.val (.int p0), .val (.int p1), .val (.int p2), .val (.int p3), .val (.int p4), .val (.int p5), .val (.int l0), .val (.int l1), .val (.int l2), .val (.ref br_1), .val (.ref br_2), .val (.ref br_4), .val (.ref b8), .val (.int (1 : Int32))] [(.ref b8)]))
      refine own_st (fun _ => XS.iconst X136.here hx rfl (hb hby at_226)) ?_
      show own_End p e below P (T136.setTop (mkF m 227 #[.val (.int p0), .val (.int p1), .val (.int p2), .val (.int p3), .val (.int p4), .val (.int p5), .val (.int l0), .val (.int l1), .val (.int l2), .val (.ref br_1), .val (.ref br_2), .val (.ref br_4), .val (.ref b8), .val (.int (1 : Int32))] [(.int (2 : Int32)), (.ref b8)]))
      have G137 := (Ac120.keep Kq121 nin0)
      have Ac138 : own_IA Z T121.heap b2_14 (((own_mk l0 p1 p2) ++ (own_mk l1 p3 p4)) ++ ((own_mk l2 p5 f) ++ (List.replicate ((((c0 + c1 + c2) - (own_mk l0 p1 p2).length) - (own_mk l1 p3 p4).length) - (own_mk l2 p5 f).length) (0 : Int32)))) := by simpa only [List.append_assoc, List.nil_append, List.append_nil] using G137
      have G140 := (G122.keep Kq121 nin0)
      have G141 := (G123.keep Kq121 nin0)
      have G142 := (G124.keep Kq121 nin0)
      have G143 := (G125.keep Kq121)
      refine own_callV X136 hx hZ (y := (⟨"com/example/ruangwaktu/ruangwaktu/exam/Enrolments", "examsOf", "(I)[I"⟩ : MethodName)) (z := (⟨"com/example/ruangwaktu/ruangwaktu/exam/Enrolments", "examsOf", "(I)[I"⟩ : MethodName)) hown (hw _ (List.mem_of_getElem? (i := 39) rfl)) (hw _ (List.mem_of_getElem? (i := 40) rfl)) (notFace_of_selects (args := #[]) (mvT hZ (hw _ (List.mem_of_getElem? (i := 42) rfl)))) (hw _ (List.mem_of_getElem? (i := 42) rfl)) (hw _ (List.mem_of_getElem? (i := 41) rfl)) (hw _ (List.mem_of_getElem? (i := 7) rfl)) (hw _ (List.mem_of_getElem? (i := 43) rfl)) (by decide) G143 (own_mex2 l Z a0 hw [] b8 u1 u2 u3 ((own_mk l0 p1 p2) ++ (own_mk l1 p3 p4)) (own_mk l2 p5 f) (List.replicate ((((c0 + c1 + c2) - (own_mk l0 p1 p2).length) - (own_mk l1 p3 p4).length) - (own_mk l2 p5 f).length) (0 : Int32)) b2_14 b7_14 T121.heap n0 (Nat.le_trans Z0 K121.1) G140 G141 Ac138 G142 (by simpa using hv2) (by rw [hv3]; simp <;> omega) (by simp; omega)) 0 (by decide) (by decide) eq136 (by decide) (by decide) (g := (mkF m 227 #[.val (.int p0), .val (.int p1), .val (.int p2), .val (.int p3), .val (.int p4), .val (.int p5), .val (.int l0), .val (.int l1), .val (.int l2), .val (.ref br_1), .val (.ref br_2), .val (.ref br_4), .val (.ref b8), .val (.int (1 : Int32))] [(.int (2 : Int32)), (.ref b8)])) rfl (by rw [hml']; rfl) (argsL := [(.int (2 : Int32))]) (rest := []) rfl (lenOf own_pd_I__I_318 rfl) rfl (by show 2 * 0 + _ ≤ _; exact Nat.le_of_eq rfl) (hb hby at_227) (fun r139 T139 L139 X139 hQ139 => ?_)
      obtain ⟨br_139, rfl, Nq139, Kq139, szq_br_139, low_br_139, f0_139⟩ := hQ139
      have N139 := Fr.app N136 Nq139
      have ne144 : b2_14 ≠ br_139 := Nat.ne_of_lt (Nat.lt_of_lt_of_le Ac138.lt szq_br_139)
      have ne145 : b7_14 ≠ br_139 := Nat.ne_of_lt (Nat.lt_of_lt_of_le G142.lt szq_br_139)
      have ne146 : b8 ≠ br_139 := Nat.ne_of_lt (Nat.lt_of_lt_of_le G143.lt szq_br_139)
      have G147 := (G129.keep Kq121 nin0)
      have ne148 : br_1 ≠ br_139 := Nat.ne_of_lt (Nat.lt_of_lt_of_le G147.lt szq_br_139)
      have G149 := (f0_108.keep Kq121 nin0)
      have ne150 : br_108 ≠ br_139 := Nat.ne_of_lt (Nat.lt_of_lt_of_le G149.lt szq_br_139)
      have ne151 : br_121 ≠ br_139 := Nat.ne_of_lt (Nat.lt_of_lt_of_le f0_121.lt szq_br_139)
      have G152 := (G132.keep Kq121 nin0)
      have ne153 : br_2 ≠ br_139 := Nat.ne_of_lt (Nat.lt_of_lt_of_le G152.lt szq_br_139)
      have G154 := (G134.keep Kq121 nin0)
      have ne155 : br_4 ≠ br_139 := Nat.ne_of_lt (Nat.lt_of_lt_of_le G154.lt szq_br_139)
      have sz_br_139 := Nat.le_trans K121.1 szq_br_139
      have K139 := Keep.trans K121 Kq139 all0
      show own_End p e below P (T139.setTop (mkF m 230 #[.val (.int p0), .val (.int p1), .val (.int p2), .val (.int p3), .val (.int p4), .val (.int p5), .val (.int l0), .val (.int l1), .val (.int l2), .val (.ref br_1), .val (.ref br_2), .val (.ref br_4), .val (.ref b8), .val (.int (1 : Int32))] [(.ref br_139)]))
      refine own_st (fun _ => XS.iload X139.here hx rfl (hb hby at_230) rfl) ?_
      show own_End p e below P (T139.setTop (mkF m 232 #[.val (.int p0), .val (.int p1), .val (.int p2), .val (.int p3), .val (.int p4), .val (.int p5), .val (.int l0), .val (.int l1), .val (.int l2), .val (.ref br_1), .val (.ref br_2), .val (.ref br_4), .val (.ref b8), .val (.int (1 : Int32))] [(.int l2), (.ref br_139)]))
      refine own_st (fun _ => XS.iload X139.here hx rfl (hb hby at_232) rfl) ?_
      show own_End p e below P (T139.setTop (mkF m 234 #[.val (.int p0), .val (.int p1), .val (.int p2), .val (.int p3), .val (.int p4), .val (.int p5), .val (.int l0), .val (.int l1), .val (.int l2), .val (.ref br_1), .val (.ref br_2), .val (.ref br_4), .val (.ref b8), .val (.int (1 : Int32))] [(.int p5), (.int l2), (.ref br_139)]))
      refine own_st (fun _ => XS.iload X139.here hx rfl (hb hby at_234) rfl) ?_
      show own_End p e below P (T139.setTop (mkF m 236 #[.val (.int p0), .val (.int p1), .val (.int p2), .val (.int p3), .val (.int p4), .val (.int p5), .val (.int l0), .val (.int l1), .val (.int l2), .val (.ref br_1), .val (.ref br_2), .val (.ref br_4), .val (.ref b8), .val (.int (1 : Int32))] [(.int p5), (.int p5), (.int l2), (.ref br_139)]))
      refine own_st (fun _ => XS.iconst X139.here hx rfl (hb hby at_236)) ?_
      show own_End p e below P (T139.setTop (mkF m 237 #[.val (.int p0), .val (.int p1), .val (.int p2), .val (.int p3), .val (.int p4), .val (.int p5), .val (.int l0), .val (.int l1), .val (.int l2), .val (.ref br_1), .val (.ref br_2), .val (.ref br_4), .val (.ref b8), .val (.int (1 : Int32))] [(.int (-1 : Int32)), (.int p5), (.int p5), (.int l2), (.ref br_139)]))
      refine own_st (fun _ => XS.ixor X139.here hx rfl (hb hby at_237) rfl) ?_
      show own_End p e below P (T139.setTop (mkF m 238 #[.val (.int p0), .val (.int p1), .val (.int p2), .val (.int p3), .val (.int p4), .val (.int p5), .val (.int l0), .val (.int l1), .val (.int l2), .val (.ref br_1), .val (.ref br_2), .val (.ref br_4), .val (.ref b8), .val (.int (1 : Int32))] [(.int (p5 ^^^ (-1 : Int32))), (.int p5), (.int l2), (.ref br_139)]))
      rw [← e_f]
      show own_End p e below P (T139.setTop (mkF m 238 #[.val (.int p0), .val (.int p1), .val (.int p2), .val (.int p3), .val (.int p4), .val (.int p5), .val (.int l0), .val (.int l1), .val (.int l2), .val (.ref br_1), .val (.ref br_2), .val (.ref br_4), .val (.ref b8), .val (.int (1 : Int32))] [(.int f), (.int p5), (.int l2), (.ref br_139)]))
      refine own_callS X139 hx hZ (y := (⟨"com/example/ruangwaktu/ruangwaktu/exam/EnrolmentsAddPinLaw", "same", "([IIII)Z"⟩ : MethodName)) hown (hw _ (List.mem_of_getElem? (i := 57) rfl)) (hw _ (List.mem_of_getElem? (i := 58) rfl)) (hw _ (List.mem_of_getElem? (i := 2) rfl)) (hw _ (List.mem_of_getElem? (i := 59) rfl)) (by decide) (own_msame l Z a0 hw [] br_139 l2 p5 f c2 T139.heap n0 (Nat.le_trans Z0 K139.1) f0_139 hl2 hm2) 0 (by decide) (by decide) rfl (by decide) (by decide) (g := (mkF m 238 #[.val (.int p0), .val (.int p1), .val (.int p2), .val (.int p3), .val (.int p4), .val (.int p5), .val (.int l0), .val (.int l1), .val (.int l2), .val (.ref br_1), .val (.ref br_2), .val (.ref br_4), .val (.ref b8), .val (.int (1 : Int32))] [(.int f), (.int p5), (.int l2), (.ref br_139)])) rfl (by rw [hml']; rfl) (argsL := [(.ref br_139), (.int l2), (.int p5), (.int f)]) (rest := []) rfl (lenOf own_pd_IIII_Z_554 rfl) rfl (by show 2 * 0 + _ ≤ _; exact Nat.le_of_eq rfl) (hb hby at_238) (fun r156 T156 L156 X156 hQ156 => ?_)
      obtain ⟨rfl, Nq156, eq156⟩ := hQ156
      have N156 := Fr.app N139 Nq156
      show own_End p e below P (T156.setTop (mkF m 241 #[.val (.int p0), .val (.int p1), .val (.int p2), .val (.int p3), .val (.int p4), .val (.int p5), .val (.int l0), .val (.int l1), .val (.int l2), .val (.ref br_1), .val (.ref br_2), .val (.ref br_4), .val (.ref b8), .val (.int (1 : Int32))] [(.int (1 : Int32))]))
      refine own_st (fun _ => XS.ifNo X156.here hx rfl (hb hby at_241) rfl ((if0 _ _).trans (feq (by decide : ¬ ((1 : Int32) = (0 : Int32)))).1)) ?_
      show own_End p e below P (T156.setTop (mkF m 244 #[.val (.int p0), .val (.int p1), .val (.int p2), .val (.int p3), .val (.int p4), .val (.int p5), .val (.int l0), .val (.int l1), .val (.int l2), .val (.ref br_1), .val (.ref br_2), .val (.ref br_4), .val (.ref b8), .val (.int (1 : Int32))] []))
      refine own_st (fun _ => XS.iconst X156.here hx rfl (hb hby at_244)) ?_
      show own_End p e below P (T156.setTop (mkF m 245 #[.val (.int p0), .val (.int p1), .val (.int p2), .val (.int p3), .val (.int p4), .val (.int p5), .val (.int l0), .val (.int l1), .val (.int l2), .val (.ref br_1), .val (.ref br_2), .val (.ref br_4), .val (.ref b8), .val (.int (1 : Int32))] [(.int (1 : Int32))]))
      refine own_st (fun _ => XS.goto X156.here hx rfl (pc0 := 245) (pc' := 249) rfl (hb hby at_245) (by decide) (by decide)) ?_
      show own_End p e below P (T156.setTop (mkF m 249 #[.val (.int p0), .val (.int p1), .val (.int p2), .val (.int p3), .val (.int p4), .val (.int p5), .val (.int l0), .val (.int l1), .val (.int l2), .val (.ref br_1), .val (.ref br_2), .val (.ref br_4), .val (.ref b8), .val (.int (1 : Int32))] [(.int (1 : Int32))]))
      refine own_st (fun _ => XS.istore X156.here hx rfl (hb hby at_249) rfl (l' := #[.val (.int p0), .val (.int p1), .val (.int p2), .val (.int p3), .val (.int p4), .val (.int p5), .val (.int l0), .val (.int l1), .val (.int l2), .val (.ref br_1), .val (.ref br_2), .val (.ref br_4), .val (.ref b8), .val (.int (1 : Int32))]) rfl) ?_
      show own_End p e below P (T156.setTop (mkF m 251 #[.val (.int p0), .val (.int p1), .val (.int p2), .val (.int p3), .val (.int p4), .val (.int p5), .val (.int l0), .val (.int l1), .val (.int l2), .val (.ref br_1), .val (.ref br_2), .val (.ref br_4), .val (.ref b8), .val (.int (1 : Int32))] []))
      refine own_st (fun _ => XS.iload X156.here hx rfl (hb hby at_251) rfl) ?_
      show own_End p e below P (T156.setTop (mkF m 253 #[.val (.int p0), .val (.int p1), .val (.int p2), .val (.int p3), .val (.int p4), .val (.int p5), .val (.int l0), .val (.int l1), .val (.int l2), .val (.ref br_1), .val (.ref br_2), .val (.ref br_4), .val (.ref b8), .val (.int (1 : Int32))] [(.int (1 : Int32))]))
      exact own_retN X156 hx hlk hP (t := .boolean) (by simp) hrt (hb hby at_253) (by decide) (by decide) ⟨rfl, N156⟩
  · refine own_st (fun _ => XS.ifYes X32.here hx rfl (pc0 := 106) (pc' := 116) rfl (hb hby at_106) rfl ((if0 _ _).trans (flt hc35).2.2.2) (by decide) (by decide)) ?_
    show own_End p e below P (T32.setTop (mkF m 116 #[.val (.int p0), .val (.int p1), .val (.int p2), .val (.int p3), .val (.int p4), .val (.int p5), .val (.int l0), .val (.int l1), .val (.int l2), .val (.ref br_1), .val (.ref br_2), .val (.ref br_4), .val (.ref b8), .unset] []))
    refine own_st (fun _ => XS.iload X32.here hx rfl (hb hby at_116) rfl) ?_
    show own_End p e below P (T32.setTop (mkF m 118 #[.val (.int p0), .val (.int p1), .val (.int p2), .val (.int p3), .val (.int p4), .val (.int p5), .val (.int l0), .val (.int l1), .val (.int l2), .val (.ref br_1), .val (.ref br_2), .val (.ref br_4), .val (.ref b8), .unset] [(.int l1)]))
    refine own_st (fun _ => XS.iconst X32.here hx rfl (hb hby at_118)) ?_
    show own_End p e below P (T32.setTop (mkF m 119 #[.val (.int p0), .val (.int p1), .val (.int p2), .val (.int p3), .val (.int p4), .val (.int p5), .val (.int l0), .val (.int l1), .val (.int l2), .val (.ref br_1), .val (.ref br_2), .val (.ref br_4), .val (.ref b8), .unset] [(.int (1 : Int32)), (.int l1)]))
    by_cases hc157 : (1 : Int32) < l1
    · refine own_st (fun _ => XS.icmpNo X32.here hx rfl (hb hby at_119) rfl (tlt hc157).2.2.2) ?_
      show own_End p e below P (T32.setTop (mkF m 122 #[.val (.int p0), .val (.int p1), .val (.int p2), .val (.int p3), .val (.int p4), .val (.int p5), .val (.int l0), .val (.int l1), .val (.int l2), .val (.ref br_1), .val (.ref br_2), .val (.ref br_4), .val (.ref b8), .unset] []))
      have hlt1 : 1 < (own_mk l1 p3 p4).length := by rw [len1]; rw [Int32.lt_iff_toInt_lt, hl1] at hc157; have t1 : (1 : Int32).toInt = 1 := (by decide); omega
      refine own_st (fun _ => XS.aload X32.here hx rfl (hb hby at_122) rfl rfl) ?_
      show own_End p e below P (T32.setTop (mkF m 124 #[.val (.int p0), .val (.int p1), .val (.int p2), .val (.int p3), .val (.int p4), .val (.int p5), .val (.int l0), .val (.int l1), .val (.int l2), .val (.ref br_1), .val (.ref br_2), .val (.ref br_4), .val (.ref b8), .unset] [(.ref br_2)]))
      refine own_st (fun _ => XS.iconst X32.here hx rfl (hb hby at_124)) ?_
      show own_End p e below P (T32.setTop (mkF m 125 #[.val (.int p0), .val (.int p1), .val (.int p2), .val (.int p3), .val (.int p4), .val (.int p5), .val (.int l0), .val (.int l1), .val (.int l2), .val (.ref br_1), .val (.ref br_2), .val (.ref br_4), .val (.ref b8), .unset] [(.int (1 : Int32)), (.ref br_2)]))
      refine own_st (fun _ => XS.iload X32.here hx rfl (hb hby at_125) rfl) ?_
      show own_End p e below P (T32.setTop (mkF m 127 #[.val (.int p0), .val (.int p1), .val (.int p2), .val (.int p3), .val (.int p4), .val (.int p5), .val (.int l0), .val (.int l1), .val (.int l2), .val (.ref br_1), .val (.ref br_2), .val (.ref br_4), .val (.ref b8), .unset] [(.int p4), (.int (1 : Int32)), (.ref br_2)]))
      refine own_st (fun _ => XS.iconst X32.here hx rfl (hb hby at_127)) ?_
      show own_End p e below P (T32.setTop (mkF m 128 #[.val (.int p0), .val (.int p1), .val (.int p2), .val (.int p3), .val (.int p4), .val (.int p5), .val (.int l0), .val (.int l1), .val (.int l2), .val (.ref br_1), .val (.ref br_2), .val (.ref br_4), .val (.ref b8), .unset] [(.int (-1 : Int32)), (.int p4), (.int (1 : Int32)), (.ref br_2)]))
      refine own_st (fun _ => XS.ixor X32.here hx rfl (hb hby at_128) rfl) ?_
      show own_End p e below P (T32.setTop (mkF m 129 #[.val (.int p0), .val (.int p1), .val (.int p2), .val (.int p3), .val (.int p4), .val (.int p5), .val (.int l0), .val (.int l1), .val (.int l2), .val (.ref br_1), .val (.ref br_2), .val (.ref br_4), .val (.ref b8), .unset] [(.int (p4 ^^^ (-1 : Int32))), (.int (1 : Int32)), (.ref br_2)]))
      have G158 := ((G30.keep Kq29 (ninS ne11 (ninS ne21 (ninS ne22 nin0)))).keep Kq32 (ninS ne11 (ninS ne21 (ninS ne22 nin0))))
      refine own_iastore X32 hx hZ rfl G158 (j := (1 : Int32)) (v := (p4 ^^^ (-1 : Int32))) (i := 1) own_o32 hlt1 (g := (mkF m 129 #[.val (.int p0), .val (.int p1), .val (.int p2), .val (.int p3), .val (.int p4), .val (.int p5), .val (.int l0), .val (.int l1), .val (.int l2), .val (.ref br_1), .val (.ref br_2), .val (.ref br_4), .val (.ref b8), .unset] [(.int (p4 ^^^ (-1 : Int32))), (.int (1 : Int32)), (.ref br_2)])) rfl rfl (hb hby at_129) (fun T159 h159 X159 e159 W159 B159 => ?_)
      have A159 : own_IA Z h159 br_2 ((own_mk l1 p3 p4).set 1 (p4 ^^^ (-1 : Int32))) := B159
      have N159 := Fr.snoc X159 N32 low_br_2
      have K159 := Keep.wr K32 W159 (Or.inr sz_br_2)
      show own_End p e below P (T159.setTop (mkF m 130 #[.val (.int p0), .val (.int p1), .val (.int p2), .val (.int p3), .val (.int p4), .val (.int p5), .val (.int l0), .val (.int l1), .val (.int l2), .val (.ref br_1), .val (.ref br_2), .val (.ref br_4), .val (.ref b8), .unset] []))
      refine own_st (fun _ => XS.aload X159.here hx rfl (hb hby at_130) rfl rfl) ?_
      show own_End p e below P (T159.setTop (mkF m 132 #[.val (.int p0), .val (.int p1), .val (.int p2), .val (.int p3), .val (.int p4), .val (.int p5), .val (.int l0), .val (.int l1), .val (.int l2), .val (.ref br_1), .val (.ref br_2), .val (.ref br_4), .val (.ref b8), .unset] [(.ref b8)]))
      have G161 := (f3_32.other W159 (Or.inl (Ne.symm ne11)))
      have G162 := (f0_32.wr W159)
      refine own_callV X159 hx hZ (y := (⟨"com/example/ruangwaktu/ruangwaktu/exam/Enrolments", "students", "()I"⟩ : MethodName)) (z := (⟨"com/example/ruangwaktu/ruangwaktu/exam/Enrolments", "students", "()I"⟩ : MethodName)) hown (hw _ (List.mem_of_getElem? (i := 29) rfl)) (hw _ (List.mem_of_getElem? (i := 30) rfl)) (notFace_of_selects (args := #[]) (mvT hZ (hw _ (List.mem_of_getElem? (i := 32) rfl)))) (hw _ (List.mem_of_getElem? (i := 32) rfl)) (hw _ (List.mem_of_getElem? (i := 31) rfl)) (hw _ (List.mem_of_getElem? (i := 7) rfl)) (hw _ (List.mem_of_getElem? (i := 33) rfl)) (by decide) G162 (own_mstudents l Z a0 hw [] b8  h159 n0 (Nat.le_trans Z0 K159.1) G161) 0 (by decide) (by decide) e159 (by decide) (by decide) (g := (mkF m 132 #[.val (.int p0), .val (.int p1), .val (.int p2), .val (.int p3), .val (.int p4), .val (.int p5), .val (.int l0), .val (.int l1), .val (.int l2), .val (.ref br_1), .val (.ref br_2), .val (.ref br_4), .val (.ref b8), .unset] [(.ref b8)])) rfl (by rw [hml']; rfl) (argsL := []) (rest := []) rfl (lenOf own_pd_I_154 rfl) rfl (by show 2 * 0 + _ ≤ _; exact Nat.le_of_eq rfl) (hb hby at_132) (fun r160 T160 L160 X160 hQ160 => ?_)
      obtain ⟨rfl, Nq160, eq160⟩ := hQ160
      have N160 := Fr.app N159 Nq160
      show own_End p e below P (T160.setTop (mkF m 135 #[.val (.int p0), .val (.int p1), .val (.int p2), .val (.int p3), .val (.int p4), .val (.int p5), .val (.int l0), .val (.int l1), .val (.int l2), .val (.ref br_1), .val (.ref br_2), .val (.ref br_4), .val (.ref b8), .unset] [(.int (3 : Int32))]))
      refine own_st (fun _ => XS.iconst X160.here hx rfl (hb hby at_135)) ?_
      show own_End p e below P (T160.setTop (mkF m 136 #[.val (.int p0), .val (.int p1), .val (.int p2), .val (.int p3), .val (.int p4), .val (.int p5), .val (.int l0), .val (.int l1), .val (.int l2), .val (.ref br_1), .val (.ref br_2), .val (.ref br_4), .val (.ref b8), .unset] [(.int (3 : Int32)), (.int (3 : Int32))]))
      refine own_st (fun _ => XS.icmpNo X160.here hx rfl (hb hby at_136) rfl (teq (by decide : (3 : Int32) = (3 : Int32))).2) ?_
      show own_End p e below P (T160.setTop (mkF m 139 #[.val (.int p0), .val (.int p1), .val (.int p2), .val (.int p3), .val (.int p4), .val (.int p5), .val (.int l0), .val (.int l1), .val (.int l2), .val (.ref br_1), .val (.ref br_2), .val (.ref br_4), .val (.ref b8), .unset] []))
      refine own_st (fun _ => XS.aload X160.here hx rfl (hb hby at_139) rfl rfl) ?_
      show own_End p e below P (T160.setTop (mkF m 141 #[.val (.int p0), .val (.int p1), .val (.int p2), .val (.int p3), .val (.int p4), .val (.int p5), .val (.int l0), .val (.int l1), .val (.int l2), .val (.ref br_1), .val (.ref br_2), .val (.ref br_4), .val (.ref b8), .unset] [(.ref b8)]))
      have G164 := (f2_32.other W159 (Or.inl (Ne.symm ne11)))
      have G165 := (Au34.other W159 (Ne.symm ne22))
      refine own_callV X160 hx hZ (y := (⟨"com/example/ruangwaktu/ruangwaktu/exam/Enrolments", "total", "()I"⟩ : MethodName)) (z := (⟨"com/example/ruangwaktu/ruangwaktu/exam/Enrolments", "total", "()I"⟩ : MethodName)) hown (hw _ (List.mem_of_getElem? (i := 34) rfl)) (hw _ (List.mem_of_getElem? (i := 35) rfl)) (notFace_of_selects (args := #[]) (mvT hZ (hw _ (List.mem_of_getElem? (i := 37) rfl)))) (hw _ (List.mem_of_getElem? (i := 37) rfl)) (hw _ (List.mem_of_getElem? (i := 36) rfl)) (hw _ (List.mem_of_getElem? (i := 7) rfl)) (hw _ (List.mem_of_getElem? (i := 38) rfl)) (by decide) G162 (own_mtotal l Z a0 hw [] b8 u1 u2 u3 b7_14 h159 n0 (Nat.le_trans Z0 K159.1) G164 G161 G165) 0 (by decide) (by decide) eq160 (by decide) (by decide) (g := (mkF m 141 #[.val (.int p0), .val (.int p1), .val (.int p2), .val (.int p3), .val (.int p4), .val (.int p5), .val (.int l0), .val (.int l1), .val (.int l2), .val (.ref br_1), .val (.ref br_2), .val (.ref br_4), .val (.ref b8), .unset] [(.ref b8)])) rfl (by rw [hml']; rfl) (argsL := []) (rest := []) rfl (lenOf own_pd_I_154 rfl) rfl (by show 2 * 0 + _ ≤ _; exact Nat.le_of_eq rfl) (hb hby at_141) (fun r163 T163 L163 X163 hQ163 => ?_)
      obtain ⟨rfl, Nq163, eq163⟩ := hQ163
      have N163 := Fr.app N160 Nq163
      show own_End p e below P (T163.setTop (mkF m 144 #[.val (.int p0), .val (.int p1), .val (.int p2), .val (.int p3), .val (.int p4), .val (.int p5), .val (.int l0), .val (.int l1), .val (.int l2), .val (.ref br_1), .val (.ref br_2), .val (.ref br_4), .val (.ref b8), .unset] [(.int (own_ftotal u1 u2 u3))]))
      refine own_st (fun _ => XS.iload X163.here hx rfl (hb hby at_144) rfl) ?_
      show own_End p e below P (T163.setTop (mkF m 146 #[.val (.int p0), .val (.int p1), .val (.int p2), .val (.int p3), .val (.int p4), .val (.int p5), .val (.int l0), .val (.int l1), .val (.int l2), .val (.ref br_1), .val (.ref br_2), .val (.ref br_4), .val (.ref b8), .unset] [(.int l0), (.int (own_ftotal u1 u2 u3))]))
      refine own_st (fun _ => XS.iload X163.here hx rfl (hb hby at_146) rfl) ?_
      show own_End p e below P (T163.setTop (mkF m 148 #[.val (.int p0), .val (.int p1), .val (.int p2), .val (.int p3), .val (.int p4), .val (.int p5), .val (.int l0), .val (.int l1), .val (.int l2), .val (.ref br_1), .val (.ref br_2), .val (.ref br_4), .val (.ref b8), .unset] [(.int l1), (.int l0), (.int (own_ftotal u1 u2 u3))]))
      refine own_st (fun _ => XS.iadd X163.here hx rfl (hb hby at_148) rfl) ?_
      show own_End p e below P (T163.setTop (mkF m 149 #[.val (.int p0), .val (.int p1), .val (.int p2), .val (.int p3), .val (.int p4), .val (.int p5), .val (.int l0), .val (.int l1), .val (.int l2), .val (.ref br_1), .val (.ref br_2), .val (.ref br_4), .val (.ref b8), .unset] [(.int (l0 + l1)), (.int (own_ftotal u1 u2 u3))]))
      refine own_st (fun _ => XS.iload X163.here hx rfl (hb hby at_149) rfl) ?_
      show own_End p e below P (T163.setTop (mkF m 151 #[.val (.int p0), .val (.int p1), .val (.int p2), .val (.int p3), .val (.int p4), .val (.int p5), .val (.int l0), .val (.int l1), .val (.int l2), .val (.ref br_1), .val (.ref br_2), .val (.ref br_4), .val (.ref b8), .unset] [(.int l2), (.int (l0 + l1)), (.int (own_ftotal u1 u2 u3))]))
      refine own_st (fun _ => XS.iadd X163.here hx rfl (hb hby at_151) rfl) ?_
      show own_End p e below P (T163.setTop (mkF m 152 #[.val (.int p0), .val (.int p1), .val (.int p2), .val (.int p3), .val (.int p4), .val (.int p5), .val (.int l0), .val (.int l1), .val (.int l2), .val (.ref br_1), .val (.ref br_2), .val (.ref br_4), .val (.ref b8), .unset] [(.int ((l0 + l1) + l2)), (.int (own_ftotal u1 u2 u3))]))
      have hc166 : (own_ftotal u1 u2 u3) = ((l0 + l1) + l2) := by exact own_tot hv3 (by rw [(own_add32 (own_add32 hl0 hl1 (by omega)) hl2 (by omega))]; simp <;> omega)
      refine own_st (fun _ => XS.icmpNo X163.here hx rfl (hb hby at_152) rfl (teq hc166).2) ?_
      show own_End p e below P (T163.setTop (mkF m 155 #[.val (.int p0), .val (.int p1), .val (.int p2), .val (.int p3), .val (.int p4), .val (.int p5), .val (.int l0), .val (.int l1), .val (.int l2), .val (.ref br_1), .val (.ref br_2), .val (.ref br_4), .val (.ref b8), .unset] []))
      refine own_st (fun _ => XS.iconst X163.here hx rfl (hb hby at_155)) ?_
      show own_End p e below P (T163.setTop (mkF m 156 #[.val (.int p0), .val (.int p1), .val (.int p2), .val (.int p3), .val (.int p4), .val (.int p5), .val (.int l0), .val (.int l1), .val (.int l2), .val (.ref br_1), .val (.ref br_2), .val (.ref br_4), .val (.ref b8), .unset] [(.int (1 : Int32))]))
      refine own_st (fun _ => XS.goto X163.here hx rfl (pc0 := 156) (pc' := 160) rfl (hb hby at_156) (by decide) (by decide)) ?_
      show own_End p e below P (T163.setTop (mkF m 160 #[.val (.int p0), .val (.int p1), .val (.int p2), .val (.int p3), .val (.int p4), .val (.int p5), .val (.int l0), .val (.int l1), .val (.int l2), .val (.ref br_1), .val (.ref br_2), .val (.ref br_4), .val (.ref b8), .unset] [(.int (1 : Int32))]))
      refine own_st (fun _ => XS.istore X163.here hx rfl (hb hby at_160) rfl (l' := #[.val (.int p0), .val (.int p1), .val (.int p2), .val (.int p3), .val (.int p4), .val (.int p5), .val (.int l0), .val (.int l1), .val (.int l2), .val (.ref br_1), .val (.ref br_2), .val (.ref br_4), .val (.ref b8), .val (.int (1 : Int32))]) rfl) ?_
      show own_End p e below P (T163.setTop (mkF m 162 #[.val (.int p0), .val (.int p1), .val (.int p2), .val (.int p3), .val (.int p4), .val (.int p5), .val (.int l0), .val (.int l1), .val (.int l2), .val (.ref br_1), .val (.ref br_2), .val (.ref br_4), .val (.ref b8), .val (.int (1 : Int32))] []))
      refine own_st (fun _ => XS.iload X163.here hx rfl (hb hby at_162) rfl) ?_
      show own_End p e below P (T163.setTop (mkF m 164 #[.val (.int p0), .val (.int p1), .val (.int p2), .val (.int p3), .val (.int p4), .val (.int p5), .val (.int l0), .val (.int l1), .val (.int l2), .val (.ref br_1), .val (.ref br_2), .val (.ref br_4), .val (.ref b8), .val (.int (1 : Int32))] [(.int (1 : Int32))]))
      refine own_st (fun _ => XS.ifNo X163.here hx rfl (hb hby at_164) rfl ((if0 _ _).trans (feq (by decide : ¬ ((1 : Int32) = (0 : Int32)))).1)) ?_
      show own_End p e below P (T163.setTop (mkF m 167 #[.val (.int p0), .val (.int p1), .val (.int p2), .val (.int p3), .val (.int p4), .val (.int p5), .val (.int l0), .val (.int l1), .val (.int l2), .val (.ref br_1), .val (.ref br_2), .val (.ref br_4), .val (.ref b8), .val (.int (1 : Int32))] []))
      refine own_st (fun _ => XS.aload X163.here hx rfl (hb hby at_167) rfl rfl) ?_
      show own_End p e below P (T163.setTop (mkF m 169 #[.val (.int p0), .val (.int p1), .val (.int p2), .val (.int p3), .val (.int p4), .val (.int p5), .val (.int l0), .val (.int l1), .val (.int l2), .val (.ref br_1), .val (.ref br_2), .val (.ref br_4), .val (.ref b8), .val (.int (1 : Int32))] [(.ref b8)]))
      refine own_st (fun _ => XS.iconst X163.here hx rfl (hb hby at_169)) ?_
      show own_End p e below P (T163.setTop (mkF m 170 #[.val (.int p0), .val (.int p1), .val (.int p2), .val (.int p3), .val (.int p4), .val (.int p5), .val (.int l0), .val (.int l1), .val (.int l2), .val (.ref br_1), .val (.ref br_2), .val (.ref br_4), .val (.ref b8), .val (.int (1 : Int32))] [(.int (0 : Int32)), (.ref b8)]))
      have G167 := (f4_32.other W159 (Ne.symm ne21))
      have Ac168 : own_IA Z h159 b2_14 (([] : List Int32) ++ ((own_mk l0 p1 p2) ++ ((own_mk l1 p3 p4) ++ ((own_mk l2 p5 f) ++ (List.replicate ((((c0 + c1 + c2) - (own_mk l0 p1 p2).length) - (own_mk l1 p3 p4).length) - (own_mk l2 p5 f).length) (0 : Int32)))))) := by simpa only [List.append_assoc, List.nil_append, List.append_nil] using G167
      have G170 := (f1_32.other W159 (Or.inl (Ne.symm ne11)))
      refine own_callV X163 hx hZ (y := (⟨"com/example/ruangwaktu/ruangwaktu/exam/Enrolments", "examsOf", "(I)[I"⟩ : MethodName)) (z := (⟨"com/example/ruangwaktu/ruangwaktu/exam/Enrolments", "examsOf", "(I)[I"⟩ : MethodName)) hown (hw _ (List.mem_of_getElem? (i := 39) rfl)) (hw _ (List.mem_of_getElem? (i := 40) rfl)) (notFace_of_selects (args := #[]) (mvT hZ (hw _ (List.mem_of_getElem? (i := 42) rfl)))) (hw _ (List.mem_of_getElem? (i := 42) rfl)) (hw _ (List.mem_of_getElem? (i := 41) rfl)) (hw _ (List.mem_of_getElem? (i := 7) rfl)) (hw _ (List.mem_of_getElem? (i := 43) rfl)) (by decide) G162 (own_mex0 l Z a0 hw [] b8 u1 u2 u3 ([] : List Int32) (own_mk l0 p1 p2) ((own_mk l1 p3 p4) ++ ((own_mk l2 p5 f) ++ (List.replicate ((((c0 + c1 + c2) - (own_mk l0 p1 p2).length) - (own_mk l1 p3 p4).length) - (own_mk l2 p5 f).length) (0 : Int32)))) b2_14 b7_14 h159 n0 (Nat.le_trans Z0 K159.1) G170 G164 Ac168 G165 own_z32 (by rw [hv1]; simp <;> omega) (by simp; omega)) 0 (by decide) (by decide) eq163 (by decide) (by decide) (g := (mkF m 170 #[.val (.int p0), .val (.int p1), .val (.int p2), .val (.int p3), .val (.int p4), .val (.int p5), .val (.int l0), .val (.int l1), .val (.int l2), .val (.ref br_1), .val (.ref br_2), .val (.ref br_4), .val (.ref b8), .val (.int (1 : Int32))] [(.int (0 : Int32)), (.ref b8)])) rfl (by rw [hml']; rfl) (argsL := [(.int (0 : Int32))]) (rest := []) rfl (lenOf own_pd_I__I_318 rfl) rfl (by show 2 * 0 + _ ≤ _; exact Nat.le_of_eq rfl) (hb hby at_170) (fun r169 T169 L169 X169 hQ169 => ?_)
      obtain ⟨br_169, rfl, Nq169, Kq169, szq_br_169, low_br_169, f0_169⟩ := hQ169
      have N169 := Fr.app N163 Nq169
      have ne171 : b2_14 ≠ br_169 := Nat.ne_of_lt (Nat.lt_of_lt_of_le Ac168.lt szq_br_169)
      have ne172 : b7_14 ≠ br_169 := Nat.ne_of_lt (Nat.lt_of_lt_of_le G165.lt szq_br_169)
      have ne173 : b8 ≠ br_169 := Nat.ne_of_lt (Nat.lt_of_lt_of_le G162.lt szq_br_169)
      have G174 := ((((G27.keep Kq26 (ninS ne9 (ninS ne18 (ninS ne19 nin0)))).keep Kq29 (ninS ne9 (ninS ne18 (ninS ne19 nin0)))).keep Kq32 (ninS ne9 (ninS ne18 (ninS ne19 nin0)))).other W159 ne3)
      have ne175 : br_1 ≠ br_169 := Nat.ne_of_lt (Nat.lt_of_lt_of_le G174.lt szq_br_169)
      have ne176 : br_2 ≠ br_169 := Nat.ne_of_lt (Nat.lt_of_lt_of_le A159.lt szq_br_169)
      have G177 := ((G33.keep Kq32 (ninS ne13 (ninS ne24 (ninS ne25 nin0)))).other W159 (Ne.symm ne7))
      have ne178 : br_4 ≠ br_169 := Nat.ne_of_lt (Nat.lt_of_lt_of_le G177.lt szq_br_169)
      have sz_br_169 := Nat.le_trans K159.1 szq_br_169
      have K169 := Keep.trans K159 Kq169 all0
      show own_End p e below P (T169.setTop (mkF m 173 #[.val (.int p0), .val (.int p1), .val (.int p2), .val (.int p3), .val (.int p4), .val (.int p5), .val (.int l0), .val (.int l1), .val (.int l2), .val (.ref br_1), .val (.ref br_2), .val (.ref br_4), .val (.ref b8), .val (.int (1 : Int32))] [(.ref br_169)]))
      refine own_st (fun _ => XS.iload X169.here hx rfl (hb hby at_173) rfl) ?_
      show own_End p e below P (T169.setTop (mkF m 175 #[.val (.int p0), .val (.int p1), .val (.int p2), .val (.int p3), .val (.int p4), .val (.int p5), .val (.int l0), .val (.int l1), .val (.int l2), .val (.ref br_1), .val (.ref br_2), .val (.ref br_4), .val (.ref b8), .val (.int (1 : Int32))] [(.int l0), (.ref br_169)]))
      refine own_st (fun _ => XS.iloadN X169.here hx rfl (hb hby at_175) rfl) ?_
      show own_End p e below P (T169.setTop (mkF m 176 #[.val (.int p0), .val (.int p1), .val (.int p2), .val (.int p3), .val (.int p4), .val (.int p5), .val (.int l0), .val (.int l1), .val (.int l2), .val (.ref br_1), .val (.ref br_2), .val (.ref br_4), .val (.ref b8), .val (.int (1 : Int32))] [(.int p1), (.int l0), (.ref br_169)]))
      refine own_st (fun _ => XS.iloadN X169.here hx rfl (hb hby at_176) rfl) ?_
      show own_End p e below P (T169.setTop (mkF m 177 #[.val (.int p0), .val (.int p1), .val (.int p2), .val (.int p3), .val (.int p4), .val (.int p5), .val (.int l0), .val (.int l1), .val (.int l2), .val (.ref br_1), .val (.ref br_2), .val (.ref br_4), .val (.ref b8), .val (.int (1 : Int32))] [(.int p2), (.int p1), (.int l0), (.ref br_169)]))
      refine own_callS X169 hx hZ (y := (⟨"com/example/ruangwaktu/ruangwaktu/exam/EnrolmentsAddPinLaw", "same", "([IIII)Z"⟩ : MethodName)) hown (hw _ (List.mem_of_getElem? (i := 57) rfl)) (hw _ (List.mem_of_getElem? (i := 58) rfl)) (hw _ (List.mem_of_getElem? (i := 2) rfl)) (hw _ (List.mem_of_getElem? (i := 59) rfl)) (by decide) (own_msame l Z a0 hw [] br_169 l0 p1 p2 c0 T169.heap n0 (Nat.le_trans Z0 K169.1) f0_169 hl0 hm0) 0 (by decide) (by decide) rfl (by decide) (by decide) (g := (mkF m 177 #[.val (.int p0), .val (.int p1), .val (.int p2), .val (.int p3), .val (.int p4), .val (.int p5), .val (.int l0), .val (.int l1), .val (.int l2), .val (.ref br_1), .val (.ref br_2), .val (.ref br_4), .val (.ref b8), .val (.int (1 : Int32))] [(.int p2), (.int p1), (.int l0), (.ref br_169)])) rfl (by rw [hml']; rfl) (argsL := [(.ref br_169), (.int l0), (.int p1), (.int p2)]) (rest := []) rfl (lenOf own_pd_IIII_Z_554 rfl) rfl (by show 2 * 0 + _ ≤ _; exact Nat.le_of_eq rfl) (hb hby at_177) (fun r179 T179 L179 X179 hQ179 => ?_)
      obtain ⟨rfl, Nq179, eq179⟩ := hQ179
      have N179 := Fr.app N169 Nq179
      show own_End p e below P (T179.setTop (mkF m 180 #[.val (.int p0), .val (.int p1), .val (.int p2), .val (.int p3), .val (.int p4), .val (.int p5), .val (.int l0), .val (.int l1), .val (.int l2), .val (.ref br_1), .val (.ref br_2), .val (.ref br_4), .val (.ref b8), .val (.int (1 : Int32))] [(.int (1 : Int32))]))
      refine own_st (fun _ => XS.ifNo X179.here hx rfl (hb hby at_180) rfl ((if0 _ _).trans (feq (by decide : ¬ ((1 : Int32) = (0 : Int32)))).1)) ?_
      show own_End p e below P (T179.setTop (mkF m 183 #[.val (.int p0), .val (.int p1), .val (.int p2), .val (.int p3), .val (.int p4), .val (.int p5), .val (.int l0), .val (.int l1), .val (.int l2), .val (.ref br_1), .val (.ref br_2), .val (.ref br_4), .val (.ref b8), .val (.int (1 : Int32))] []))
      refine own_st (fun _ => XS.iconst X179.here hx rfl (hb hby at_183)) ?_
      show own_End p e below P (T179.setTop (mkF m 184 #[.val (.int p0), .val (.int p1), .val (.int p2), .val (.int p3), .val (.int p4), .val (.int p5), .val (.int l0), .val (.int l1), .val (.int l2), .val (.ref br_1), .val (.ref br_2), .val (.ref br_4), .val (.ref b8), .val (.int (1 : Int32))] [(.int (1 : Int32))]))
      refine own_st (fun _ => XS.goto X179.here hx rfl (pc0 := 184) (pc' := 188) rfl (hb hby at_184) (by decide) (by decide)) ?_
      show own_End p e below P (T179.setTop (mkF m 188 #[.val (.int p0), .val (.int p1), .val (.int p2), .val (.int p3), .val (.int p4), .val (.int p5), .val (.int l0), .val (.int l1), .val (.int l2), .val (.ref br_1), .val (.ref br_2), .val (.ref br_4), .val (.ref b8), .val (.int (1 : Int32))] [(.int (1 : Int32))]))
      refine own_st (fun _ => XS.istore X179.here hx rfl (hb hby at_188) rfl (l' := #[.val (.int p0), .val (.int p1), .val (.int p2), .val (.int p3), .val (.int p4), .val (.int p5), .val (.int l0), .val (.int l1), .val (.int l2), .val (.ref br_1), .val (.ref br_2), .val (.ref br_4), .val (.ref b8), .val (.int (1 : Int32))]) rfl) ?_
      show own_End p e below P (T179.setTop (mkF m 190 #[.val (.int p0), .val (.int p1), .val (.int p2), .val (.int p3), .val (.int p4), .val (.int p5), .val (.int l0), .val (.int l1), .val (.int l2), .val (.ref br_1), .val (.ref br_2), .val (.ref br_4), .val (.ref b8), .val (.int (1 : Int32))] []))
      refine own_st (fun _ => XS.iload X179.here hx rfl (hb hby at_190) rfl) ?_
      show own_End p e below P (T179.setTop (mkF m 192 #[.val (.int p0), .val (.int p1), .val (.int p2), .val (.int p3), .val (.int p4), .val (.int p5), .val (.int l0), .val (.int l1), .val (.int l2), .val (.ref br_1), .val (.ref br_2), .val (.ref br_4), .val (.ref b8), .val (.int (1 : Int32))] [(.int (1 : Int32))]))
      refine own_st (fun _ => XS.ifNo X179.here hx rfl (hb hby at_192) rfl ((if0 _ _).trans (feq (by decide : ¬ ((1 : Int32) = (0 : Int32)))).1)) ?_
      show own_End p e below P (T179.setTop (mkF m 195 #[.val (.int p0), .val (.int p1), .val (.int p2), .val (.int p3), .val (.int p4), .val (.int p5), .val (.int l0), .val (.int l1), .val (.int l2), .val (.ref br_1), .val (.ref br_2), .val (.ref br_4), .val (.ref b8), .val (.int (1 : Int32))] []))
      refine own_st (fun _ => XS.aload X179.here hx rfl (hb hby at_195) rfl rfl) ?_
      show own_End p e below P (T179.setTop (mkF m 197 #[.val (.int p0), .val (.int p1), .val (.int p2), .val (.int p3), .val (.int p4), .val (.int p5), .val (.int l0), .val (.int l1), .val (.int l2), .val (.ref br_1), .val (.ref br_2), .val (.ref br_4), .val (.ref b8), .val (.int (1 : Int32))] [(.ref b8)]))
      refine own_st (fun _ => XS.iconst X179.here hx rfl (hb hby at_197)) ?_
      show own_End p e below P (T179.setTop (mkF m 198 #[.val (.int p0), .val (.int p1), .val (.int p2), .val (.int p3), .val (.int p4), .val (.int p5), .val (.int l0), .val (.int l1), .val (.int l2), .val (.ref br_1), .val (.ref br_2), .val (.ref br_4), .val (.ref b8), .val (.int (1 : Int32))] [(.int (1 : Int32)), (.ref b8)]))
      have G180 := (Ac168.keep Kq169 nin0)
      have Ac181 : own_IA Z T169.heap b2_14 ((own_mk l0 p1 p2) ++ ((own_mk l1 p3 p4) ++ ((own_mk l2 p5 f) ++ (List.replicate ((((c0 + c1 + c2) - (own_mk l0 p1 p2).length) - (own_mk l1 p3 p4).length) - (own_mk l2 p5 f).length) (0 : Int32))))) := by simpa only [List.append_assoc, List.nil_append, List.append_nil] using G180
      have G183 := (G170.keep Kq169 nin0)
      have G184 := (G164.keep Kq169 nin0)
      have G185 := (G165.keep Kq169 nin0)
      have G186 := (G162.keep Kq169)
      refine own_callV X179 hx hZ (y := (⟨"com/example/ruangwaktu/ruangwaktu/exam/Enrolments", "examsOf", "(I)[I"⟩ : MethodName)) (z := (⟨"com/example/ruangwaktu/ruangwaktu/exam/Enrolments", "examsOf", "(I)[I"⟩ : MethodName)) hown (hw _ (List.mem_of_getElem? (i := 39) rfl)) (hw _ (List.mem_of_getElem? (i := 40) rfl)) (notFace_of_selects (args := #[]) (mvT hZ (hw _ (List.mem_of_getElem? (i := 42) rfl)))) (hw _ (List.mem_of_getElem? (i := 42) rfl)) (hw _ (List.mem_of_getElem? (i := 41) rfl)) (hw _ (List.mem_of_getElem? (i := 7) rfl)) (hw _ (List.mem_of_getElem? (i := 43) rfl)) (by decide) G186 (own_mex1 l Z a0 hw [] b8 u1 u2 u3 (own_mk l0 p1 p2) (own_mk l1 p3 p4) ((own_mk l2 p5 f) ++ (List.replicate ((((c0 + c1 + c2) - (own_mk l0 p1 p2).length) - (own_mk l1 p3 p4).length) - (own_mk l2 p5 f).length) (0 : Int32))) b2_14 b7_14 T169.heap n0 (Nat.le_trans Z0 K169.1) G183 G184 Ac181 G185 (by simpa using hv1) (by rw [hv2]; simp <;> omega) (by simp; omega)) 0 (by decide) (by decide) eq179 (by decide) (by decide) (g := (mkF m 198 #[.val (.int p0), .val (.int p1), .val (.int p2), .val (.int p3), .val (.int p4), .val (.int p5), .val (.int l0), .val (.int l1), .val (.int l2), .val (.ref br_1), .val (.ref br_2), .val (.ref br_4), .val (.ref b8), .val (.int (1 : Int32))] [(.int (1 : Int32)), (.ref b8)])) rfl (by rw [hml']; rfl) (argsL := [(.int (1 : Int32))]) (rest := []) rfl (lenOf own_pd_I__I_318 rfl) rfl (by show 2 * 0 + _ ≤ _; exact Nat.le_of_eq rfl) (hb hby at_198) (fun r182 T182 L182 X182 hQ182 => ?_)
      obtain ⟨br_182, rfl, Nq182, Kq182, szq_br_182, low_br_182, f0_182⟩ := hQ182
      have N182 := Fr.app N179 Nq182
      have ne187 : b2_14 ≠ br_182 := Nat.ne_of_lt (Nat.lt_of_lt_of_le Ac181.lt szq_br_182)
      have ne188 : b7_14 ≠ br_182 := Nat.ne_of_lt (Nat.lt_of_lt_of_le G185.lt szq_br_182)
      have ne189 : b8 ≠ br_182 := Nat.ne_of_lt (Nat.lt_of_lt_of_le G186.lt szq_br_182)
      have G190 := (G174.keep Kq169 nin0)
      have ne191 : br_1 ≠ br_182 := Nat.ne_of_lt (Nat.lt_of_lt_of_le G190.lt szq_br_182)
      have ne192 : br_169 ≠ br_182 := Nat.ne_of_lt (Nat.lt_of_lt_of_le f0_169.lt szq_br_182)
      have G193 := (A159.keep Kq169 nin0)
      have ne194 : br_2 ≠ br_182 := Nat.ne_of_lt (Nat.lt_of_lt_of_le G193.lt szq_br_182)
      have G195 := (G177.keep Kq169 nin0)
      have ne196 : br_4 ≠ br_182 := Nat.ne_of_lt (Nat.lt_of_lt_of_le G195.lt szq_br_182)
      have sz_br_182 := Nat.le_trans K169.1 szq_br_182
      have K182 := Keep.trans K169 Kq182 all0
      show own_End p e below P (T182.setTop (mkF m 201 #[.val (.int p0), .val (.int p1), .val (.int p2), .val (.int p3), .val (.int p4), .val (.int p5), .val (.int l0), .val (.int l1), .val (.int l2), .val (.ref br_1), .val (.ref br_2), .val (.ref br_4), .val (.ref b8), .val (.int (1 : Int32))] [(.ref br_182)]))
      refine own_st (fun _ => XS.iload X182.here hx rfl (hb hby at_201) rfl) ?_
      show own_End p e below P (T182.setTop (mkF m 203 #[.val (.int p0), .val (.int p1), .val (.int p2), .val (.int p3), .val (.int p4), .val (.int p5), .val (.int l0), .val (.int l1), .val (.int l2), .val (.ref br_1), .val (.ref br_2), .val (.ref br_4), .val (.ref b8), .val (.int (1 : Int32))] [(.int l1), (.ref br_182)]))
      refine own_st (fun _ => XS.iloadN X182.here hx rfl (hb hby at_203) rfl) ?_
      show own_End p e below P (T182.setTop (mkF m 204 #[.val (.int p0), .val (.int p1), .val (.int p2), .val (.int p3), .val (.int p4), .val (.int p5), .val (.int l0), .val (.int l1), .val (.int l2), .val (.ref br_1), .val (.ref br_2), .val (.ref br_4), .val (.ref b8), .val (.int (1 : Int32))] [(.int p3), (.int l1), (.ref br_182)]))
      refine own_st (fun _ => XS.iload X182.here hx rfl (hb hby at_204) rfl) ?_
      show own_End p e below P (T182.setTop (mkF m 206 #[.val (.int p0), .val (.int p1), .val (.int p2), .val (.int p3), .val (.int p4), .val (.int p5), .val (.int l0), .val (.int l1), .val (.int l2), .val (.ref br_1), .val (.ref br_2), .val (.ref br_4), .val (.ref b8), .val (.int (1 : Int32))] [(.int p4), (.int p3), (.int l1), (.ref br_182)]))
      refine own_callS X182 hx hZ (y := (⟨"com/example/ruangwaktu/ruangwaktu/exam/EnrolmentsAddPinLaw", "same", "([IIII)Z"⟩ : MethodName)) hown (hw _ (List.mem_of_getElem? (i := 57) rfl)) (hw _ (List.mem_of_getElem? (i := 58) rfl)) (hw _ (List.mem_of_getElem? (i := 2) rfl)) (hw _ (List.mem_of_getElem? (i := 59) rfl)) (by decide) (own_msame l Z a0 hw [] br_182 l1 p3 p4 c1 T182.heap n0 (Nat.le_trans Z0 K182.1) f0_182 hl1 hm1) 0 (by decide) (by decide) rfl (by decide) (by decide) (g := (mkF m 206 #[.val (.int p0), .val (.int p1), .val (.int p2), .val (.int p3), .val (.int p4), .val (.int p5), .val (.int l0), .val (.int l1), .val (.int l2), .val (.ref br_1), .val (.ref br_2), .val (.ref br_4), .val (.ref b8), .val (.int (1 : Int32))] [(.int p4), (.int p3), (.int l1), (.ref br_182)])) rfl (by rw [hml']; rfl) (argsL := [(.ref br_182), (.int l1), (.int p3), (.int p4)]) (rest := []) rfl (lenOf own_pd_IIII_Z_554 rfl) rfl (by show 2 * 0 + _ ≤ _; exact Nat.le_of_eq rfl) (hb hby at_206) (fun r197 T197 L197 X197 hQ197 => ?_)
      obtain ⟨rfl, Nq197, eq197⟩ := hQ197
      have N197 := Fr.app N182 Nq197
      show own_End p e below P (T197.setTop (mkF m 209 #[.val (.int p0), .val (.int p1), .val (.int p2), .val (.int p3), .val (.int p4), .val (.int p5), .val (.int l0), .val (.int l1), .val (.int l2), .val (.ref br_1), .val (.ref br_2), .val (.ref br_4), .val (.ref b8), .val (.int (1 : Int32))] [(.int (1 : Int32))]))
      refine own_st (fun _ => XS.ifNo X197.here hx rfl (hb hby at_209) rfl ((if0 _ _).trans (feq (by decide : ¬ ((1 : Int32) = (0 : Int32)))).1)) ?_
      show own_End p e below P (T197.setTop (mkF m 212 #[.val (.int p0), .val (.int p1), .val (.int p2), .val (.int p3), .val (.int p4), .val (.int p5), .val (.int l0), .val (.int l1), .val (.int l2), .val (.ref br_1), .val (.ref br_2), .val (.ref br_4), .val (.ref b8), .val (.int (1 : Int32))] []))
      refine own_st (fun _ => XS.iconst X197.here hx rfl (hb hby at_212)) ?_
      show own_End p e below P (T197.setTop (mkF m 213 #[.val (.int p0), .val (.int p1), .val (.int p2), .val (.int p3), .val (.int p4), .val (.int p5), .val (.int l0), .val (.int l1), .val (.int l2), .val (.ref br_1), .val (.ref br_2), .val (.ref br_4), .val (.ref b8), .val (.int (1 : Int32))] [(.int (1 : Int32))]))
      refine own_st (fun _ => XS.goto X197.here hx rfl (pc0 := 213) (pc' := 217) rfl (hb hby at_213) (by decide) (by decide)) ?_
      show own_End p e below P (T197.setTop (mkF m 217 #[.val (.int p0), .val (.int p1), .val (.int p2), .val (.int p3), .val (.int p4), .val (.int p5), .val (.int l0), .val (.int l1), .val (.int l2), .val (.ref br_1), .val (.ref br_2), .val (.ref br_4), .val (.ref b8), .val (.int (1 : Int32))] [(.int (1 : Int32))]))
      refine own_st (fun _ => XS.istore X197.here hx rfl (hb hby at_217) rfl (l' := #[.val (.int p0), .val (.int p1), .val (.int p2), .val (.int p3), .val (.int p4), .val (.int p5), .val (.int l0), .val (.int l1), .val (.int l2), .val (.ref br_1), .val (.ref br_2), .val (.ref br_4), .val (.ref b8), .val (.int (1 : Int32))]) rfl) ?_
      show own_End p e below P (T197.setTop (mkF m 219 #[.val (.int p0), .val (.int p1), .val (.int p2), .val (.int p3), .val (.int p4), .val (.int p5), .val (.int l0), .val (.int l1), .val (.int l2), .val (.ref br_1), .val (.ref br_2), .val (.ref br_4), .val (.ref b8), .val (.int (1 : Int32))] []))
      refine own_st (fun _ => XS.iload X197.here hx rfl (hb hby at_219) rfl) ?_
      show own_End p e below P (T197.setTop (mkF m 221 #[.val (.int p0), .val (.int p1), .val (.int p2), .val (.int p3), .val (.int p4), .val (.int p5), .val (.int l0), .val (.int l1), .val (.int l2), .val (.ref br_1), .val (.ref br_2), .val (.ref br_4), .val (.ref b8), .val (.int (1 : Int32))] [(.int (1 : Int32))]))
      refine own_st (fun _ => XS.ifNo X197.here hx rfl (hb hby at_221) rfl ((if0 _ _).trans (feq (by decide : ¬ ((1 : Int32) = (0 : Int32)))).1)) ?_
      show own_End p e below P (T197.setTop (mkF m 224 #[.val (.int p0), .val (.int p1), .val (.int p2), .val (.int p3), .val (.int p4), .val (.int p5), .val (.int l0), .val (.int l1), .val (.int l2), .val (.ref br_1), .val (.ref br_2), .val (.ref br_4), .val (.ref b8), .val (.int (1 : Int32))] []))
      refine own_st (fun _ => XS.aload X197.here hx rfl (hb hby at_224) rfl rfl) ?_
      show own_End p e below P (T197.setTop (mkF m 226 #[.val (.int p0), .val (.int p1), .val (.int p2), .val (.int p3), .val (.int p4), .val (.int p5), .val (.int l0), .val (.int l1), .val (.int l2), .val (.ref br_1), .val (.ref br_2), .val (.ref br_4), .val (.ref b8), .val (.int (1 : Int32))] [(.ref b8)]))
      refine own_st (fun _ => XS.iconst X197.here hx rfl (hb hby at_226)) ?_
      show own_End p e below P (T197.setTop (mkF m 227 #[.val (.int p0), .val (.int p1), .val (.int p2), .val (.int p3), .val (.int p4), .val (.int p5), .val (.int l0), .val (.int l1), .val (.int l2), .val (.ref br_1), .val (.ref br_2), .val (.ref br_4), .val (.ref b8), .val (.int (1 : Int32))] [(.int (2 : Int32)), (.ref b8)]))
      have G198 := (Ac181.keep Kq182 nin0)
      have Ac199 : own_IA Z T182.heap b2_14 (((own_mk l0 p1 p2) ++ (own_mk l1 p3 p4)) ++ ((own_mk l2 p5 f) ++ (List.replicate ((((c0 + c1 + c2) - (own_mk l0 p1 p2).length) - (own_mk l1 p3 p4).length) - (own_mk l2 p5 f).length) (0 : Int32)))) := by simpa only [List.append_assoc, List.nil_append, List.append_nil] using G198
      have G201 := (G183.keep Kq182 nin0)
      have G202 := (G184.keep Kq182 nin0)
      have G203 := (G185.keep Kq182 nin0)
      have G204 := (G186.keep Kq182)
      refine own_callV X197 hx hZ (y := (⟨"com/example/ruangwaktu/ruangwaktu/exam/Enrolments", "examsOf", "(I)[I"⟩ : MethodName)) (z := (⟨"com/example/ruangwaktu/ruangwaktu/exam/Enrolments", "examsOf", "(I)[I"⟩ : MethodName)) hown (hw _ (List.mem_of_getElem? (i := 39) rfl)) (hw _ (List.mem_of_getElem? (i := 40) rfl)) (notFace_of_selects (args := #[]) (mvT hZ (hw _ (List.mem_of_getElem? (i := 42) rfl)))) (hw _ (List.mem_of_getElem? (i := 42) rfl)) (hw _ (List.mem_of_getElem? (i := 41) rfl)) (hw _ (List.mem_of_getElem? (i := 7) rfl)) (hw _ (List.mem_of_getElem? (i := 43) rfl)) (by decide) G204 (own_mex2 l Z a0 hw [] b8 u1 u2 u3 ((own_mk l0 p1 p2) ++ (own_mk l1 p3 p4)) (own_mk l2 p5 f) (List.replicate ((((c0 + c1 + c2) - (own_mk l0 p1 p2).length) - (own_mk l1 p3 p4).length) - (own_mk l2 p5 f).length) (0 : Int32)) b2_14 b7_14 T182.heap n0 (Nat.le_trans Z0 K182.1) G201 G202 Ac199 G203 (by simpa using hv2) (by rw [hv3]; simp <;> omega) (by simp; omega)) 0 (by decide) (by decide) eq197 (by decide) (by decide) (g := (mkF m 227 #[.val (.int p0), .val (.int p1), .val (.int p2), .val (.int p3), .val (.int p4), .val (.int p5), .val (.int l0), .val (.int l1), .val (.int l2), .val (.ref br_1), .val (.ref br_2), .val (.ref br_4), .val (.ref b8), .val (.int (1 : Int32))] [(.int (2 : Int32)), (.ref b8)])) rfl (by rw [hml']; rfl) (argsL := [(.int (2 : Int32))]) (rest := []) rfl (lenOf own_pd_I__I_318 rfl) rfl (by show 2 * 0 + _ ≤ _; exact Nat.le_of_eq rfl) (hb hby at_227) (fun r200 T200 L200 X200 hQ200 => ?_)
      obtain ⟨br_200, rfl, Nq200, Kq200, szq_br_200, low_br_200, f0_200⟩ := hQ200
      have N200 := Fr.app N197 Nq200
      have ne205 : b2_14 ≠ br_200 := Nat.ne_of_lt (Nat.lt_of_lt_of_le Ac199.lt szq_br_200)
      have ne206 : b7_14 ≠ br_200 := Nat.ne_of_lt (Nat.lt_of_lt_of_le G203.lt szq_br_200)
      have ne207 : b8 ≠ br_200 := Nat.ne_of_lt (Nat.lt_of_lt_of_le G204.lt szq_br_200)
      have G208 := (G190.keep Kq182 nin0)
      have ne209 : br_1 ≠ br_200 := Nat.ne_of_lt (Nat.lt_of_lt_of_le G208.lt szq_br_200)
      have G210 := (f0_169.keep Kq182 nin0)
      have ne211 : br_169 ≠ br_200 := Nat.ne_of_lt (Nat.lt_of_lt_of_le G210.lt szq_br_200)
      have ne212 : br_182 ≠ br_200 := Nat.ne_of_lt (Nat.lt_of_lt_of_le f0_182.lt szq_br_200)
      have G213 := (G193.keep Kq182 nin0)
      have ne214 : br_2 ≠ br_200 := Nat.ne_of_lt (Nat.lt_of_lt_of_le G213.lt szq_br_200)
      have G215 := (G195.keep Kq182 nin0)
      have ne216 : br_4 ≠ br_200 := Nat.ne_of_lt (Nat.lt_of_lt_of_le G215.lt szq_br_200)
      have sz_br_200 := Nat.le_trans K182.1 szq_br_200
      have K200 := Keep.trans K182 Kq200 all0
      show own_End p e below P (T200.setTop (mkF m 230 #[.val (.int p0), .val (.int p1), .val (.int p2), .val (.int p3), .val (.int p4), .val (.int p5), .val (.int l0), .val (.int l1), .val (.int l2), .val (.ref br_1), .val (.ref br_2), .val (.ref br_4), .val (.ref b8), .val (.int (1 : Int32))] [(.ref br_200)]))
      refine own_st (fun _ => XS.iload X200.here hx rfl (hb hby at_230) rfl) ?_
      show own_End p e below P (T200.setTop (mkF m 232 #[.val (.int p0), .val (.int p1), .val (.int p2), .val (.int p3), .val (.int p4), .val (.int p5), .val (.int l0), .val (.int l1), .val (.int l2), .val (.ref br_1), .val (.ref br_2), .val (.ref br_4), .val (.ref b8), .val (.int (1 : Int32))] [(.int l2), (.ref br_200)]))
      refine own_st (fun _ => XS.iload X200.here hx rfl (hb hby at_232) rfl) ?_
      show own_End p e below P (T200.setTop (mkF m 234 #[.val (.int p0), .val (.int p1), .val (.int p2), .val (.int p3), .val (.int p4), .val (.int p5), .val (.int l0), .val (.int l1), .val (.int l2), .val (.ref br_1), .val (.ref br_2), .val (.ref br_4), .val (.ref b8), .val (.int (1 : Int32))] [(.int p5), (.int l2), (.ref br_200)]))
      refine own_st (fun _ => XS.iload X200.here hx rfl (hb hby at_234) rfl) ?_
      show own_End p e below P (T200.setTop (mkF m 236 #[.val (.int p0), .val (.int p1), .val (.int p2), .val (.int p3), .val (.int p4), .val (.int p5), .val (.int l0), .val (.int l1), .val (.int l2), .val (.ref br_1), .val (.ref br_2), .val (.ref br_4), .val (.ref b8), .val (.int (1 : Int32))] [(.int p5), (.int p5), (.int l2), (.ref br_200)]))
      refine own_st (fun _ => XS.iconst X200.here hx rfl (hb hby at_236)) ?_
      show own_End p e below P (T200.setTop (mkF m 237 #[.val (.int p0), .val (.int p1), .val (.int p2), .val (.int p3), .val (.int p4), .val (.int p5), .val (.int l0), .val (.int l1), .val (.int l2), .val (.ref br_1), .val (.ref br_2), .val (.ref br_4), .val (.ref b8), .val (.int (1 : Int32))] [(.int (-1 : Int32)), (.int p5), (.int p5), (.int l2), (.ref br_200)]))
      refine own_st (fun _ => XS.ixor X200.here hx rfl (hb hby at_237) rfl) ?_
      show own_End p e below P (T200.setTop (mkF m 238 #[.val (.int p0), .val (.int p1), .val (.int p2), .val (.int p3), .val (.int p4), .val (.int p5), .val (.int l0), .val (.int l1), .val (.int l2), .val (.ref br_1), .val (.ref br_2), .val (.ref br_4), .val (.ref b8), .val (.int (1 : Int32))] [(.int (p5 ^^^ (-1 : Int32))), (.int p5), (.int l2), (.ref br_200)]))
      rw [← e_f]
      show own_End p e below P (T200.setTop (mkF m 238 #[.val (.int p0), .val (.int p1), .val (.int p2), .val (.int p3), .val (.int p4), .val (.int p5), .val (.int l0), .val (.int l1), .val (.int l2), .val (.ref br_1), .val (.ref br_2), .val (.ref br_4), .val (.ref b8), .val (.int (1 : Int32))] [(.int f), (.int p5), (.int l2), (.ref br_200)]))
      refine own_callS X200 hx hZ (y := (⟨"com/example/ruangwaktu/ruangwaktu/exam/EnrolmentsAddPinLaw", "same", "([IIII)Z"⟩ : MethodName)) hown (hw _ (List.mem_of_getElem? (i := 57) rfl)) (hw _ (List.mem_of_getElem? (i := 58) rfl)) (hw _ (List.mem_of_getElem? (i := 2) rfl)) (hw _ (List.mem_of_getElem? (i := 59) rfl)) (by decide) (own_msame l Z a0 hw [] br_200 l2 p5 f c2 T200.heap n0 (Nat.le_trans Z0 K200.1) f0_200 hl2 hm2) 0 (by decide) (by decide) rfl (by decide) (by decide) (g := (mkF m 238 #[.val (.int p0), .val (.int p1), .val (.int p2), .val (.int p3), .val (.int p4), .val (.int p5), .val (.int l0), .val (.int l1), .val (.int l2), .val (.ref br_1), .val (.ref br_2), .val (.ref br_4), .val (.ref b8), .val (.int (1 : Int32))] [(.int f), (.int p5), (.int l2), (.ref br_200)])) rfl (by rw [hml']; rfl) (argsL := [(.ref br_200), (.int l2), (.int p5), (.int f)]) (rest := []) rfl (lenOf own_pd_IIII_Z_554 rfl) rfl (by show 2 * 0 + _ ≤ _; exact Nat.le_of_eq rfl) (hb hby at_238) (fun r217 T217 L217 X217 hQ217 => ?_)
      obtain ⟨rfl, Nq217, eq217⟩ := hQ217
      have N217 := Fr.app N200 Nq217
      show own_End p e below P (T217.setTop (mkF m 241 #[.val (.int p0), .val (.int p1), .val (.int p2), .val (.int p3), .val (.int p4), .val (.int p5), .val (.int l0), .val (.int l1), .val (.int l2), .val (.ref br_1), .val (.ref br_2), .val (.ref br_4), .val (.ref b8), .val (.int (1 : Int32))] [(.int (1 : Int32))]))
      refine own_st (fun _ => XS.ifNo X217.here hx rfl (hb hby at_241) rfl ((if0 _ _).trans (feq (by decide : ¬ ((1 : Int32) = (0 : Int32)))).1)) ?_
      show own_End p e below P (T217.setTop (mkF m 244 #[.val (.int p0), .val (.int p1), .val (.int p2), .val (.int p3), .val (.int p4), .val (.int p5), .val (.int l0), .val (.int l1), .val (.int l2), .val (.ref br_1), .val (.ref br_2), .val (.ref br_4), .val (.ref b8), .val (.int (1 : Int32))] []))
      refine own_st (fun _ => XS.iconst X217.here hx rfl (hb hby at_244)) ?_
      show own_End p e below P (T217.setTop (mkF m 245 #[.val (.int p0), .val (.int p1), .val (.int p2), .val (.int p3), .val (.int p4), .val (.int p5), .val (.int l0), .val (.int l1), .val (.int l2), .val (.ref br_1), .val (.ref br_2), .val (.ref br_4), .val (.ref b8), .val (.int (1 : Int32))] [(.int (1 : Int32))]))
      refine own_st (fun _ => XS.goto X217.here hx rfl (pc0 := 245) (pc' := 249) rfl (hb hby at_245) (by decide) (by decide)) ?_
      show own_End p e below P (T217.setTop (mkF m 249 #[.val (.int p0), .val (.int p1), .val (.int p2), .val (.int p3), .val (.int p4), .val (.int p5), .val (.int l0), .val (.int l1), .val (.int l2), .val (.ref br_1), .val (.ref br_2), .val (.ref br_4), .val (.ref b8), .val (.int (1 : Int32))] [(.int (1 : Int32))]))
      refine own_st (fun _ => XS.istore X217.here hx rfl (hb hby at_249) rfl (l' := #[.val (.int p0), .val (.int p1), .val (.int p2), .val (.int p3), .val (.int p4), .val (.int p5), .val (.int l0), .val (.int l1), .val (.int l2), .val (.ref br_1), .val (.ref br_2), .val (.ref br_4), .val (.ref b8), .val (.int (1 : Int32))]) rfl) ?_
      show own_End p e below P (T217.setTop (mkF m 251 #[.val (.int p0), .val (.int p1), .val (.int p2), .val (.int p3), .val (.int p4), .val (.int p5), .val (.int l0), .val (.int l1), .val (.int l2), .val (.ref br_1), .val (.ref br_2), .val (.ref br_4), .val (.ref b8), .val (.int (1 : Int32))] []))
      refine own_st (fun _ => XS.iload X217.here hx rfl (hb hby at_251) rfl) ?_
      show own_End p e below P (T217.setTop (mkF m 253 #[.val (.int p0), .val (.int p1), .val (.int p2), .val (.int p3), .val (.int p4), .val (.int p5), .val (.int l0), .val (.int l1), .val (.int l2), .val (.ref br_1), .val (.ref br_2), .val (.ref br_4), .val (.ref b8), .val (.int (1 : Int32))] [(.int (1 : Int32))]))
      exact own_retN X217 hx hlk hP (t := .boolean) (by simp) hrt (hb hby at_253) (by decide) (by decide) ⟨rfl, N217⟩
    · refine own_st (fun _ => XS.icmpYes X32.here hx rfl (pc0 := 119) (pc' := 130) rfl (hb hby at_119) rfl (flt hc157).2.2.2 (by decide) (by decide)) ?_
      show own_End p e below P (T32.setTop (mkF m 130 #[.val (.int p0), .val (.int p1), .val (.int p2), .val (.int p3), .val (.int p4), .val (.int p5), .val (.int l0), .val (.int l1), .val (.int l2), .val (.ref br_1), .val (.ref br_2), .val (.ref br_4), .val (.ref b8), .unset] []))
      refine own_st (fun _ => XS.aload X32.here hx rfl (hb hby at_130) rfl rfl) ?_
      show own_End p e below P (T32.setTop (mkF m 132 #[.val (.int p0), .val (.int p1), .val (.int p2), .val (.int p3), .val (.int p4), .val (.int p5), .val (.int l0), .val (.int l1), .val (.int l2), .val (.ref br_1), .val (.ref br_2), .val (.ref br_4), .val (.ref b8), .unset] [(.ref b8)]))
      refine own_callV X32 hx hZ (y := (⟨"com/example/ruangwaktu/ruangwaktu/exam/Enrolments", "students", "()I"⟩ : MethodName)) (z := (⟨"com/example/ruangwaktu/ruangwaktu/exam/Enrolments", "students", "()I"⟩ : MethodName)) hown (hw _ (List.mem_of_getElem? (i := 29) rfl)) (hw _ (List.mem_of_getElem? (i := 30) rfl)) (notFace_of_selects (args := #[]) (mvT hZ (hw _ (List.mem_of_getElem? (i := 32) rfl)))) (hw _ (List.mem_of_getElem? (i := 32) rfl)) (hw _ (List.mem_of_getElem? (i := 31) rfl)) (hw _ (List.mem_of_getElem? (i := 7) rfl)) (hw _ (List.mem_of_getElem? (i := 33) rfl)) (by decide) f0_32 (own_mstudents l Z a0 hw [] b8  T32.heap n0 (Nat.le_trans Z0 K32.1) f3_32) 0 (by decide) (by decide) rfl (by decide) (by decide) (g := (mkF m 132 #[.val (.int p0), .val (.int p1), .val (.int p2), .val (.int p3), .val (.int p4), .val (.int p5), .val (.int l0), .val (.int l1), .val (.int l2), .val (.ref br_1), .val (.ref br_2), .val (.ref br_4), .val (.ref b8), .unset] [(.ref b8)])) rfl (by rw [hml']; rfl) (argsL := []) (rest := []) rfl (lenOf own_pd_I_154 rfl) rfl (by show 2 * 0 + _ ≤ _; exact Nat.le_of_eq rfl) (hb hby at_132) (fun r218 T218 L218 X218 hQ218 => ?_)
      obtain ⟨rfl, Nq218, eq218⟩ := hQ218
      have N218 := Fr.app N32 Nq218
      show own_End p e below P (T218.setTop (mkF m 135 #[.val (.int p0), .val (.int p1), .val (.int p2), .val (.int p3), .val (.int p4), .val (.int p5), .val (.int l0), .val (.int l1), .val (.int l2), .val (.ref br_1), .val (.ref br_2), .val (.ref br_4), .val (.ref b8), .unset] [(.int (3 : Int32))]))
      refine own_st (fun _ => XS.iconst X218.here hx rfl (hb hby at_135)) ?_
      show own_End p e below P (T218.setTop (mkF m 136 #[.val (.int p0), .val (.int p1), .val (.int p2), .val (.int p3), .val (.int p4), .val (.int p5), .val (.int l0), .val (.int l1), .val (.int l2), .val (.ref br_1), .val (.ref br_2), .val (.ref br_4), .val (.ref b8), .unset] [(.int (3 : Int32)), (.int (3 : Int32))]))
      refine own_st (fun _ => XS.icmpNo X218.here hx rfl (hb hby at_136) rfl (teq (by decide : (3 : Int32) = (3 : Int32))).2) ?_
      show own_End p e below P (T218.setTop (mkF m 139 #[.val (.int p0), .val (.int p1), .val (.int p2), .val (.int p3), .val (.int p4), .val (.int p5), .val (.int l0), .val (.int l1), .val (.int l2), .val (.ref br_1), .val (.ref br_2), .val (.ref br_4), .val (.ref b8), .unset] []))
      refine own_st (fun _ => XS.aload X218.here hx rfl (hb hby at_139) rfl rfl) ?_
      show own_End p e below P (T218.setTop (mkF m 141 #[.val (.int p0), .val (.int p1), .val (.int p2), .val (.int p3), .val (.int p4), .val (.int p5), .val (.int l0), .val (.int l1), .val (.int l2), .val (.ref br_1), .val (.ref br_2), .val (.ref br_4), .val (.ref b8), .unset] [(.ref b8)]))
      refine own_callV X218 hx hZ (y := (⟨"com/example/ruangwaktu/ruangwaktu/exam/Enrolments", "total", "()I"⟩ : MethodName)) (z := (⟨"com/example/ruangwaktu/ruangwaktu/exam/Enrolments", "total", "()I"⟩ : MethodName)) hown (hw _ (List.mem_of_getElem? (i := 34) rfl)) (hw _ (List.mem_of_getElem? (i := 35) rfl)) (notFace_of_selects (args := #[]) (mvT hZ (hw _ (List.mem_of_getElem? (i := 37) rfl)))) (hw _ (List.mem_of_getElem? (i := 37) rfl)) (hw _ (List.mem_of_getElem? (i := 36) rfl)) (hw _ (List.mem_of_getElem? (i := 7) rfl)) (hw _ (List.mem_of_getElem? (i := 38) rfl)) (by decide) f0_32 (own_mtotal l Z a0 hw [] b8 u1 u2 u3 b7_14 T32.heap n0 (Nat.le_trans Z0 K32.1) f2_32 f3_32 Au34) 0 (by decide) (by decide) eq218 (by decide) (by decide) (g := (mkF m 141 #[.val (.int p0), .val (.int p1), .val (.int p2), .val (.int p3), .val (.int p4), .val (.int p5), .val (.int l0), .val (.int l1), .val (.int l2), .val (.ref br_1), .val (.ref br_2), .val (.ref br_4), .val (.ref b8), .unset] [(.ref b8)])) rfl (by rw [hml']; rfl) (argsL := []) (rest := []) rfl (lenOf own_pd_I_154 rfl) rfl (by show 2 * 0 + _ ≤ _; exact Nat.le_of_eq rfl) (hb hby at_141) (fun r219 T219 L219 X219 hQ219 => ?_)
      obtain ⟨rfl, Nq219, eq219⟩ := hQ219
      have N219 := Fr.app N218 Nq219
      show own_End p e below P (T219.setTop (mkF m 144 #[.val (.int p0), .val (.int p1), .val (.int p2), .val (.int p3), .val (.int p4), .val (.int p5), .val (.int l0), .val (.int l1), .val (.int l2), .val (.ref br_1), .val (.ref br_2), .val (.ref br_4), .val (.ref b8), .unset] [(.int (own_ftotal u1 u2 u3))]))
      refine own_st (fun _ => XS.iload X219.here hx rfl (hb hby at_144) rfl) ?_
      show own_End p e below P (T219.setTop (mkF m 146 #[.val (.int p0), .val (.int p1), .val (.int p2), .val (.int p3), .val (.int p4), .val (.int p5), .val (.int l0), .val (.int l1), .val (.int l2), .val (.ref br_1), .val (.ref br_2), .val (.ref br_4), .val (.ref b8), .unset] [(.int l0), (.int (own_ftotal u1 u2 u3))]))
      refine own_st (fun _ => XS.iload X219.here hx rfl (hb hby at_146) rfl) ?_
      show own_End p e below P (T219.setTop (mkF m 148 #[.val (.int p0), .val (.int p1), .val (.int p2), .val (.int p3), .val (.int p4), .val (.int p5), .val (.int l0), .val (.int l1), .val (.int l2), .val (.ref br_1), .val (.ref br_2), .val (.ref br_4), .val (.ref b8), .unset] [(.int l1), (.int l0), (.int (own_ftotal u1 u2 u3))]))
      refine own_st (fun _ => XS.iadd X219.here hx rfl (hb hby at_148) rfl) ?_
      show own_End p e below P (T219.setTop (mkF m 149 #[.val (.int p0), .val (.int p1), .val (.int p2), .val (.int p3), .val (.int p4), .val (.int p5), .val (.int l0), .val (.int l1), .val (.int l2), .val (.ref br_1), .val (.ref br_2), .val (.ref br_4), .val (.ref b8), .unset] [(.int (l0 + l1)), (.int (own_ftotal u1 u2 u3))]))
      refine own_st (fun _ => XS.iload X219.here hx rfl (hb hby at_149) rfl) ?_
      show own_End p e below P (T219.setTop (mkF m 151 #[.val (.int p0), .val (.int p1), .val (.int p2), .val (.int p3), .val (.int p4), .val (.int p5), .val (.int l0), .val (.int l1), .val (.int l2), .val (.ref br_1), .val (.ref br_2), .val (.ref br_4), .val (.ref b8), .unset] [(.int l2), (.int (l0 + l1)), (.int (own_ftotal u1 u2 u3))]))
      refine own_st (fun _ => XS.iadd X219.here hx rfl (hb hby at_151) rfl) ?_
      show own_End p e below P (T219.setTop (mkF m 152 #[.val (.int p0), .val (.int p1), .val (.int p2), .val (.int p3), .val (.int p4), .val (.int p5), .val (.int l0), .val (.int l1), .val (.int l2), .val (.ref br_1), .val (.ref br_2), .val (.ref br_4), .val (.ref b8), .unset] [(.int ((l0 + l1) + l2)), (.int (own_ftotal u1 u2 u3))]))
      have hc220 : (own_ftotal u1 u2 u3) = ((l0 + l1) + l2) := by exact own_tot hv3 (by rw [(own_add32 (own_add32 hl0 hl1 (by omega)) hl2 (by omega))]; simp <;> omega)
      refine own_st (fun _ => XS.icmpNo X219.here hx rfl (hb hby at_152) rfl (teq hc220).2) ?_
      show own_End p e below P (T219.setTop (mkF m 155 #[.val (.int p0), .val (.int p1), .val (.int p2), .val (.int p3), .val (.int p4), .val (.int p5), .val (.int l0), .val (.int l1), .val (.int l2), .val (.ref br_1), .val (.ref br_2), .val (.ref br_4), .val (.ref b8), .unset] []))
      refine own_st (fun _ => XS.iconst X219.here hx rfl (hb hby at_155)) ?_
      show own_End p e below P (T219.setTop (mkF m 156 #[.val (.int p0), .val (.int p1), .val (.int p2), .val (.int p3), .val (.int p4), .val (.int p5), .val (.int l0), .val (.int l1), .val (.int l2), .val (.ref br_1), .val (.ref br_2), .val (.ref br_4), .val (.ref b8), .unset] [(.int (1 : Int32))]))
      refine own_st (fun _ => XS.goto X219.here hx rfl (pc0 := 156) (pc' := 160) rfl (hb hby at_156) (by decide) (by decide)) ?_
      show own_End p e below P (T219.setTop (mkF m 160 #[.val (.int p0), .val (.int p1), .val (.int p2), .val (.int p3), .val (.int p4), .val (.int p5), .val (.int l0), .val (.int l1), .val (.int l2), .val (.ref br_1), .val (.ref br_2), .val (.ref br_4), .val (.ref b8), .unset] [(.int (1 : Int32))]))
      refine own_st (fun _ => XS.istore X219.here hx rfl (hb hby at_160) rfl (l' := #[.val (.int p0), .val (.int p1), .val (.int p2), .val (.int p3), .val (.int p4), .val (.int p5), .val (.int l0), .val (.int l1), .val (.int l2), .val (.ref br_1), .val (.ref br_2), .val (.ref br_4), .val (.ref b8), .val (.int (1 : Int32))]) rfl) ?_
      show own_End p e below P (T219.setTop (mkF m 162 #[.val (.int p0), .val (.int p1), .val (.int p2), .val (.int p3), .val (.int p4), .val (.int p5), .val (.int l0), .val (.int l1), .val (.int l2), .val (.ref br_1), .val (.ref br_2), .val (.ref br_4), .val (.ref b8), .val (.int (1 : Int32))] []))
      refine own_st (fun _ => XS.iload X219.here hx rfl (hb hby at_162) rfl) ?_
      show own_End p e below P (T219.setTop (mkF m 164 #[.val (.int p0), .val (.int p1), .val (.int p2), .val (.int p3), .val (.int p4), .val (.int p5), .val (.int l0), .val (.int l1), .val (.int l2), .val (.ref br_1), .val (.ref br_2), .val (.ref br_4), .val (.ref b8), .val (.int (1 : Int32))] [(.int (1 : Int32))]))
      refine own_st (fun _ => XS.ifNo X219.here hx rfl (hb hby at_164) rfl ((if0 _ _).trans (feq (by decide : ¬ ((1 : Int32) = (0 : Int32)))).1)) ?_
      show own_End p e below P (T219.setTop (mkF m 167 #[.val (.int p0), .val (.int p1), .val (.int p2), .val (.int p3), .val (.int p4), .val (.int p5), .val (.int l0), .val (.int l1), .val (.int l2), .val (.ref br_1), .val (.ref br_2), .val (.ref br_4), .val (.ref b8), .val (.int (1 : Int32))] []))
      refine own_st (fun _ => XS.aload X219.here hx rfl (hb hby at_167) rfl rfl) ?_
      show own_End p e below P (T219.setTop (mkF m 169 #[.val (.int p0), .val (.int p1), .val (.int p2), .val (.int p3), .val (.int p4), .val (.int p5), .val (.int l0), .val (.int l1), .val (.int l2), .val (.ref br_1), .val (.ref br_2), .val (.ref br_4), .val (.ref b8), .val (.int (1 : Int32))] [(.ref b8)]))
      refine own_st (fun _ => XS.iconst X219.here hx rfl (hb hby at_169)) ?_
      show own_End p e below P (T219.setTop (mkF m 170 #[.val (.int p0), .val (.int p1), .val (.int p2), .val (.int p3), .val (.int p4), .val (.int p5), .val (.int l0), .val (.int l1), .val (.int l2), .val (.ref br_1), .val (.ref br_2), .val (.ref br_4), .val (.ref b8), .val (.int (1 : Int32))] [(.int (0 : Int32)), (.ref b8)]))
      have Ac221 : own_IA Z T32.heap b2_14 (([] : List Int32) ++ ((own_mk l0 p1 p2) ++ ((own_mk l1 p3 p4) ++ ((own_mk l2 p5 f) ++ (List.replicate ((((c0 + c1 + c2) - (own_mk l0 p1 p2).length) - (own_mk l1 p3 p4).length) - (own_mk l2 p5 f).length) (0 : Int32)))))) := by simpa only [List.append_assoc, List.nil_append, List.append_nil] using f4_32
      refine own_callV X219 hx hZ (y := (⟨"com/example/ruangwaktu/ruangwaktu/exam/Enrolments", "examsOf", "(I)[I"⟩ : MethodName)) (z := (⟨"com/example/ruangwaktu/ruangwaktu/exam/Enrolments", "examsOf", "(I)[I"⟩ : MethodName)) hown (hw _ (List.mem_of_getElem? (i := 39) rfl)) (hw _ (List.mem_of_getElem? (i := 40) rfl)) (notFace_of_selects (args := #[]) (mvT hZ (hw _ (List.mem_of_getElem? (i := 42) rfl)))) (hw _ (List.mem_of_getElem? (i := 42) rfl)) (hw _ (List.mem_of_getElem? (i := 41) rfl)) (hw _ (List.mem_of_getElem? (i := 7) rfl)) (hw _ (List.mem_of_getElem? (i := 43) rfl)) (by decide) f0_32 (own_mex0 l Z a0 hw [] b8 u1 u2 u3 ([] : List Int32) (own_mk l0 p1 p2) ((own_mk l1 p3 p4) ++ ((own_mk l2 p5 f) ++ (List.replicate ((((c0 + c1 + c2) - (own_mk l0 p1 p2).length) - (own_mk l1 p3 p4).length) - (own_mk l2 p5 f).length) (0 : Int32)))) b2_14 b7_14 T32.heap n0 (Nat.le_trans Z0 K32.1) f1_32 f2_32 Ac221 Au34 own_z32 (by rw [hv1]; simp <;> omega) (by simp; omega)) 0 (by decide) (by decide) eq219 (by decide) (by decide) (g := (mkF m 170 #[.val (.int p0), .val (.int p1), .val (.int p2), .val (.int p3), .val (.int p4), .val (.int p5), .val (.int l0), .val (.int l1), .val (.int l2), .val (.ref br_1), .val (.ref br_2), .val (.ref br_4), .val (.ref b8), .val (.int (1 : Int32))] [(.int (0 : Int32)), (.ref b8)])) rfl (by rw [hml']; rfl) (argsL := [(.int (0 : Int32))]) (rest := []) rfl (lenOf own_pd_I__I_318 rfl) rfl (by show 2 * 0 + _ ≤ _; exact Nat.le_of_eq rfl) (hb hby at_170) (fun r222 T222 L222 X222 hQ222 => ?_)
      obtain ⟨br_222, rfl, Nq222, Kq222, szq_br_222, low_br_222, f0_222⟩ := hQ222
      have N222 := Fr.app N219 Nq222
      have ne223 : b2_14 ≠ br_222 := Nat.ne_of_lt (Nat.lt_of_lt_of_le Ac221.lt szq_br_222)
      have ne224 : b7_14 ≠ br_222 := Nat.ne_of_lt (Nat.lt_of_lt_of_le Au34.lt szq_br_222)
      have ne225 : b8 ≠ br_222 := Nat.ne_of_lt (Nat.lt_of_lt_of_le f0_32.lt szq_br_222)
      have G226 := (((G27.keep Kq26 (ninS ne9 (ninS ne18 (ninS ne19 nin0)))).keep Kq29 (ninS ne9 (ninS ne18 (ninS ne19 nin0)))).keep Kq32 (ninS ne9 (ninS ne18 (ninS ne19 nin0))))
      have ne227 : br_1 ≠ br_222 := Nat.ne_of_lt (Nat.lt_of_lt_of_le G226.lt szq_br_222)
      have G228 := ((G30.keep Kq29 (ninS ne11 (ninS ne21 (ninS ne22 nin0)))).keep Kq32 (ninS ne11 (ninS ne21 (ninS ne22 nin0))))
      have ne229 : br_2 ≠ br_222 := Nat.ne_of_lt (Nat.lt_of_lt_of_le G228.lt szq_br_222)
      have G230 := (G33.keep Kq32 (ninS ne13 (ninS ne24 (ninS ne25 nin0))))
      have ne231 : br_4 ≠ br_222 := Nat.ne_of_lt (Nat.lt_of_lt_of_le G230.lt szq_br_222)
      have sz_br_222 := Nat.le_trans K32.1 szq_br_222
      have K222 := Keep.trans K32 Kq222 all0
      show own_End p e below P (T222.setTop (mkF m 173 #[.val (.int p0), .val (.int p1), .val (.int p2), .val (.int p3), .val (.int p4), .val (.int p5), .val (.int l0), .val (.int l1), .val (.int l2), .val (.ref br_1), .val (.ref br_2), .val (.ref br_4), .val (.ref b8), .val (.int (1 : Int32))] [(.ref br_222)]))
      refine own_st (fun _ => XS.iload X222.here hx rfl (hb hby at_173) rfl) ?_
      show own_End p e below P (T222.setTop (mkF m 175 #[.val (.int p0), .val (.int p1), .val (.int p2), .val (.int p3), .val (.int p4), .val (.int p5), .val (.int l0), .val (.int l1), .val (.int l2), .val (.ref br_1), .val (.ref br_2), .val (.ref br_4), .val (.ref b8), .val (.int (1 : Int32))] [(.int l0), (.ref br_222)]))
      refine own_st (fun _ => XS.iloadN X222.here hx rfl (hb hby at_175) rfl) ?_
      show own_End p e below P (T222.setTop (mkF m 176 #[.val (.int p0), .val (.int p1), .val (.int p2), .val (.int p3), .val (.int p4), .val (.int p5), .val (.int l0), .val (.int l1), .val (.int l2), .val (.ref br_1), .val (.ref br_2), .val (.ref br_4), .val (.ref b8), .val (.int (1 : Int32))] [(.int p1), (.int l0), (.ref br_222)]))
      refine own_st (fun _ => XS.iloadN X222.here hx rfl (hb hby at_176) rfl) ?_
      show own_End p e below P (T222.setTop (mkF m 177 #[.val (.int p0), .val (.int p1), .val (.int p2), .val (.int p3), .val (.int p4), .val (.int p5), .val (.int l0), .val (.int l1), .val (.int l2), .val (.ref br_1), .val (.ref br_2), .val (.ref br_4), .val (.ref b8), .val (.int (1 : Int32))] [(.int p2), (.int p1), (.int l0), (.ref br_222)]))
      refine own_callS X222 hx hZ (y := (⟨"com/example/ruangwaktu/ruangwaktu/exam/EnrolmentsAddPinLaw", "same", "([IIII)Z"⟩ : MethodName)) hown (hw _ (List.mem_of_getElem? (i := 57) rfl)) (hw _ (List.mem_of_getElem? (i := 58) rfl)) (hw _ (List.mem_of_getElem? (i := 2) rfl)) (hw _ (List.mem_of_getElem? (i := 59) rfl)) (by decide) (own_msame l Z a0 hw [] br_222 l0 p1 p2 c0 T222.heap n0 (Nat.le_trans Z0 K222.1) f0_222 hl0 hm0) 0 (by decide) (by decide) rfl (by decide) (by decide) (g := (mkF m 177 #[.val (.int p0), .val (.int p1), .val (.int p2), .val (.int p3), .val (.int p4), .val (.int p5), .val (.int l0), .val (.int l1), .val (.int l2), .val (.ref br_1), .val (.ref br_2), .val (.ref br_4), .val (.ref b8), .val (.int (1 : Int32))] [(.int p2), (.int p1), (.int l0), (.ref br_222)])) rfl (by rw [hml']; rfl) (argsL := [(.ref br_222), (.int l0), (.int p1), (.int p2)]) (rest := []) rfl (lenOf own_pd_IIII_Z_554 rfl) rfl (by show 2 * 0 + _ ≤ _; exact Nat.le_of_eq rfl) (hb hby at_177) (fun r232 T232 L232 X232 hQ232 => ?_)
      obtain ⟨rfl, Nq232, eq232⟩ := hQ232
      have N232 := Fr.app N222 Nq232
      show own_End p e below P (T232.setTop (mkF m 180 #[.val (.int p0), .val (.int p1), .val (.int p2), .val (.int p3), .val (.int p4), .val (.int p5), .val (.int l0), .val (.int l1), .val (.int l2), .val (.ref br_1), .val (.ref br_2), .val (.ref br_4), .val (.ref b8), .val (.int (1 : Int32))] [(.int (1 : Int32))]))
      refine own_st (fun _ => XS.ifNo X232.here hx rfl (hb hby at_180) rfl ((if0 _ _).trans (feq (by decide : ¬ ((1 : Int32) = (0 : Int32)))).1)) ?_
      show own_End p e below P (T232.setTop (mkF m 183 #[.val (.int p0), .val (.int p1), .val (.int p2), .val (.int p3), .val (.int p4), .val (.int p5), .val (.int l0), .val (.int l1), .val (.int l2), .val (.ref br_1), .val (.ref br_2), .val (.ref br_4), .val (.ref b8), .val (.int (1 : Int32))] []))
      refine own_st (fun _ => XS.iconst X232.here hx rfl (hb hby at_183)) ?_
      show own_End p e below P (T232.setTop (mkF m 184 #[.val (.int p0), .val (.int p1), .val (.int p2), .val (.int p3), .val (.int p4), .val (.int p5), .val (.int l0), .val (.int l1), .val (.int l2), .val (.ref br_1), .val (.ref br_2), .val (.ref br_4), .val (.ref b8), .val (.int (1 : Int32))] [(.int (1 : Int32))]))
      refine own_st (fun _ => XS.goto X232.here hx rfl (pc0 := 184) (pc' := 188) rfl (hb hby at_184) (by decide) (by decide)) ?_
      show own_End p e below P (T232.setTop (mkF m 188 #[.val (.int p0), .val (.int p1), .val (.int p2), .val (.int p3), .val (.int p4), .val (.int p5), .val (.int l0), .val (.int l1), .val (.int l2), .val (.ref br_1), .val (.ref br_2), .val (.ref br_4), .val (.ref b8), .val (.int (1 : Int32))] [(.int (1 : Int32))]))
      refine own_st (fun _ => XS.istore X232.here hx rfl (hb hby at_188) rfl (l' := #[.val (.int p0), .val (.int p1), .val (.int p2), .val (.int p3), .val (.int p4), .val (.int p5), .val (.int l0), .val (.int l1), .val (.int l2), .val (.ref br_1), .val (.ref br_2), .val (.ref br_4), .val (.ref b8), .val (.int (1 : Int32))]) rfl) ?_
      show own_End p e below P (T232.setTop (mkF m 190 #[.val (.int p0), .val (.int p1), .val (.int p2), .val (.int p3), .val (.int p4), .val (.int p5), .val (.int l0), .val (.int l1), .val (.int l2), .val (.ref br_1), .val (.ref br_2), .val (.ref br_4), .val (.ref b8), .val (.int (1 : Int32))] []))
      refine own_st (fun _ => XS.iload X232.here hx rfl (hb hby at_190) rfl) ?_
      show own_End p e below P (T232.setTop (mkF m 192 #[.val (.int p0), .val (.int p1), .val (.int p2), .val (.int p3), .val (.int p4), .val (.int p5), .val (.int l0), .val (.int l1), .val (.int l2), .val (.ref br_1), .val (.ref br_2), .val (.ref br_4), .val (.ref b8), .val (.int (1 : Int32))] [(.int (1 : Int32))]))
      refine own_st (fun _ => XS.ifNo X232.here hx rfl (hb hby at_192) rfl ((if0 _ _).trans (feq (by decide : ¬ ((1 : Int32) = (0 : Int32)))).1)) ?_
      show own_End p e below P (T232.setTop (mkF m 195 #[.val (.int p0), .val (.int p1), .val (.int p2), .val (.int p3), .val (.int p4), .val (.int p5), .val (.int l0), .val (.int l1), .val (.int l2), .val (.ref br_1), .val (.ref br_2), .val (.ref br_4), .val (.ref b8), .val (.int (1 : Int32))] []))
      refine own_st (fun _ => XS.aload X232.here hx rfl (hb hby at_195) rfl rfl) ?_
      show own_End p e below P (T232.setTop (mkF m 197 #[.val (.int p0), .val (.int p1), .val (.int p2), .val (.int p3), .val (.int p4), .val (.int p5), .val (.int l0), .val (.int l1), .val (.int l2), .val (.ref br_1), .val (.ref br_2), .val (.ref br_4), .val (.ref b8), .val (.int (1 : Int32))] [(.ref b8)]))
      refine own_st (fun _ => XS.iconst X232.here hx rfl (hb hby at_197)) ?_
      show own_End p e below P (T232.setTop (mkF m 198 #[.val (.int p0), .val (.int p1), .val (.int p2), .val (.int p3), .val (.int p4), .val (.int p5), .val (.int l0), .val (.int l1), .val (.int l2), .val (.ref br_1), .val (.ref br_2), .val (.ref br_4), .val (.ref b8), .val (.int (1 : Int32))] [(.int (1 : Int32)), (.ref b8)]))
      have G233 := (Ac221.keep Kq222 nin0)
      have Ac234 : own_IA Z T222.heap b2_14 ((own_mk l0 p1 p2) ++ ((own_mk l1 p3 p4) ++ ((own_mk l2 p5 f) ++ (List.replicate ((((c0 + c1 + c2) - (own_mk l0 p1 p2).length) - (own_mk l1 p3 p4).length) - (own_mk l2 p5 f).length) (0 : Int32))))) := by simpa only [List.append_assoc, List.nil_append, List.append_nil] using G233
      have G236 := (f1_32.keep Kq222 nin0)
      have G237 := (f2_32.keep Kq222 nin0)
      have G238 := (Au34.keep Kq222 nin0)
      have G239 := (f0_32.keep Kq222)
      refine own_callV X232 hx hZ (y := (⟨"com/example/ruangwaktu/ruangwaktu/exam/Enrolments", "examsOf", "(I)[I"⟩ : MethodName)) (z := (⟨"com/example/ruangwaktu/ruangwaktu/exam/Enrolments", "examsOf", "(I)[I"⟩ : MethodName)) hown (hw _ (List.mem_of_getElem? (i := 39) rfl)) (hw _ (List.mem_of_getElem? (i := 40) rfl)) (notFace_of_selects (args := #[]) (mvT hZ (hw _ (List.mem_of_getElem? (i := 42) rfl)))) (hw _ (List.mem_of_getElem? (i := 42) rfl)) (hw _ (List.mem_of_getElem? (i := 41) rfl)) (hw _ (List.mem_of_getElem? (i := 7) rfl)) (hw _ (List.mem_of_getElem? (i := 43) rfl)) (by decide) G239 (own_mex1 l Z a0 hw [] b8 u1 u2 u3 (own_mk l0 p1 p2) (own_mk l1 p3 p4) ((own_mk l2 p5 f) ++ (List.replicate ((((c0 + c1 + c2) - (own_mk l0 p1 p2).length) - (own_mk l1 p3 p4).length) - (own_mk l2 p5 f).length) (0 : Int32))) b2_14 b7_14 T222.heap n0 (Nat.le_trans Z0 K222.1) G236 G237 Ac234 G238 (by simpa using hv1) (by rw [hv2]; simp <;> omega) (by simp; omega)) 0 (by decide) (by decide) eq232 (by decide) (by decide) (g := (mkF m 198 #[.val (.int p0), .val (.int p1), .val (.int p2), .val (.int p3), .val (.int p4), .val (.int p5), .val (.int l0), .val (.int l1), .val (.int l2), .val (.ref br_1), .val (.ref br_2), .val (.ref br_4), .val (.ref b8), .val (.int (1 : Int32))] [(.int (1 : Int32)), (.ref b8)])) rfl (by rw [hml']; rfl) (argsL := [(.int (1 : Int32))]) (rest := []) rfl (lenOf own_pd_I__I_318 rfl) rfl (by show 2 * 0 + _ ≤ _; exact Nat.le_of_eq rfl) (hb hby at_198) (fun r235 T235 L235 X235 hQ235 => ?_)
      obtain ⟨br_235, rfl, Nq235, Kq235, szq_br_235, low_br_235, f0_235⟩ := hQ235
      have N235 := Fr.app N232 Nq235
      have ne240 : b2_14 ≠ br_235 := Nat.ne_of_lt (Nat.lt_of_lt_of_le Ac234.lt szq_br_235)
      have ne241 : b7_14 ≠ br_235 := Nat.ne_of_lt (Nat.lt_of_lt_of_le G238.lt szq_br_235)
      have ne242 : b8 ≠ br_235 := Nat.ne_of_lt (Nat.lt_of_lt_of_le G239.lt szq_br_235)
      have G243 := (G226.keep Kq222 nin0)
      have ne244 : br_1 ≠ br_235 := Nat.ne_of_lt (Nat.lt_of_lt_of_le G243.lt szq_br_235)
      have G245 := (G228.keep Kq222 nin0)
      have ne246 : br_2 ≠ br_235 := Nat.ne_of_lt (Nat.lt_of_lt_of_le G245.lt szq_br_235)
      have ne247 : br_222 ≠ br_235 := Nat.ne_of_lt (Nat.lt_of_lt_of_le f0_222.lt szq_br_235)
      have G248 := (G230.keep Kq222 nin0)
      have ne249 : br_4 ≠ br_235 := Nat.ne_of_lt (Nat.lt_of_lt_of_le G248.lt szq_br_235)
      have sz_br_235 := Nat.le_trans K222.1 szq_br_235
      have K235 := Keep.trans K222 Kq235 all0
      show own_End p e below P (T235.setTop (mkF m 201 #[.val (.int p0), .val (.int p1), .val (.int p2), .val (.int p3), .val (.int p4), .val (.int p5), .val (.int l0), .val (.int l1), .val (.int l2), .val (.ref br_1), .val (.ref br_2), .val (.ref br_4), .val (.ref b8), .val (.int (1 : Int32))] [(.ref br_235)]))
      refine own_st (fun _ => XS.iload X235.here hx rfl (hb hby at_201) rfl) ?_
      show own_End p e below P (T235.setTop (mkF m 203 #[.val (.int p0), .val (.int p1), .val (.int p2), .val (.int p3), .val (.int p4), .val (.int p5), .val (.int l0), .val (.int l1), .val (.int l2), .val (.ref br_1), .val (.ref br_2), .val (.ref br_4), .val (.ref b8), .val (.int (1 : Int32))] [(.int l1), (.ref br_235)]))
      refine own_st (fun _ => XS.iloadN X235.here hx rfl (hb hby at_203) rfl) ?_
      show own_End p e below P (T235.setTop (mkF m 204 #[.val (.int p0), .val (.int p1), .val (.int p2), .val (.int p3), .val (.int p4), .val (.int p5), .val (.int l0), .val (.int l1), .val (.int l2), .val (.ref br_1), .val (.ref br_2), .val (.ref br_4), .val (.ref b8), .val (.int (1 : Int32))] [(.int p3), (.int l1), (.ref br_235)]))
      refine own_st (fun _ => XS.iload X235.here hx rfl (hb hby at_204) rfl) ?_
      show own_End p e below P (T235.setTop (mkF m 206 #[.val (.int p0), .val (.int p1), .val (.int p2), .val (.int p3), .val (.int p4), .val (.int p5), .val (.int l0), .val (.int l1), .val (.int l2), .val (.ref br_1), .val (.ref br_2), .val (.ref br_4), .val (.ref b8), .val (.int (1 : Int32))] [(.int p4), (.int p3), (.int l1), (.ref br_235)]))
      refine own_callS X235 hx hZ (y := (⟨"com/example/ruangwaktu/ruangwaktu/exam/EnrolmentsAddPinLaw", "same", "([IIII)Z"⟩ : MethodName)) hown (hw _ (List.mem_of_getElem? (i := 57) rfl)) (hw _ (List.mem_of_getElem? (i := 58) rfl)) (hw _ (List.mem_of_getElem? (i := 2) rfl)) (hw _ (List.mem_of_getElem? (i := 59) rfl)) (by decide) (own_msame l Z a0 hw [] br_235 l1 p3 p4 c1 T235.heap n0 (Nat.le_trans Z0 K235.1) f0_235 hl1 hm1) 0 (by decide) (by decide) rfl (by decide) (by decide) (g := (mkF m 206 #[.val (.int p0), .val (.int p1), .val (.int p2), .val (.int p3), .val (.int p4), .val (.int p5), .val (.int l0), .val (.int l1), .val (.int l2), .val (.ref br_1), .val (.ref br_2), .val (.ref br_4), .val (.ref b8), .val (.int (1 : Int32))] [(.int p4), (.int p3), (.int l1), (.ref br_235)])) rfl (by rw [hml']; rfl) (argsL := [(.ref br_235), (.int l1), (.int p3), (.int p4)]) (rest := []) rfl (lenOf own_pd_IIII_Z_554 rfl) rfl (by show 2 * 0 + _ ≤ _; exact Nat.le_of_eq rfl) (hb hby at_206) (fun r250 T250 L250 X250 hQ250 => ?_)
      obtain ⟨rfl, Nq250, eq250⟩ := hQ250
      have N250 := Fr.app N235 Nq250
      show own_End p e below P (T250.setTop (mkF m 209 #[.val (.int p0), .val (.int p1), .val (.int p2), .val (.int p3), .val (.int p4), .val (.int p5), .val (.int l0), .val (.int l1), .val (.int l2), .val (.ref br_1), .val (.ref br_2), .val (.ref br_4), .val (.ref b8), .val (.int (1 : Int32))] [(.int (1 : Int32))]))
      refine own_st (fun _ => XS.ifNo X250.here hx rfl (hb hby at_209) rfl ((if0 _ _).trans (feq (by decide : ¬ ((1 : Int32) = (0 : Int32)))).1)) ?_
      show own_End p e below P (T250.setTop (mkF m 212 #[.val (.int p0), .val (.int p1), .val (.int p2), .val (.int p3), .val (.int p4), .val (.int p5), .val (.int l0), .val (.int l1), .val (.int l2), .val (.ref br_1), .val (.ref br_2), .val (.ref br_4), .val (.ref b8), .val (.int (1 : Int32))] []))
      refine own_st (fun _ => XS.iconst X250.here hx rfl (hb hby at_212)) ?_
      show own_End p e below P (T250.setTop (mkF m 213 #[.val (.int p0), .val (.int p1), .val (.int p2), .val (.int p3), .val (.int p4), .val (.int p5), .val (.int l0), .val (.int l1), .val (.int l2), .val (.ref br_1), .val (.ref br_2), .val (.ref br_4), .val (.ref b8), .val (.int (1 : Int32))] [(.int (1 : Int32))]))
      refine own_st (fun _ => XS.goto X250.here hx rfl (pc0 := 213) (pc' := 217) rfl (hb hby at_213) (by decide) (by decide)) ?_
      show own_End p e below P (T250.setTop (mkF m 217 #[.val (.int p0), .val (.int p1), .val (.int p2), .val (.int p3), .val (.int p4), .val (.int p5), .val (.int l0), .val (.int l1), .val (.int l2), .val (.ref br_1), .val (.ref br_2), .val (.ref br_4), .val (.ref b8), .val (.int (1 : Int32))] [(.int (1 : Int32))]))
      refine own_st (fun _ => XS.istore X250.here hx rfl (hb hby at_217) rfl (l' := #[.val (.int p0), .val (.int p1), .val (.int p2), .val (.int p3), .val (.int p4), .val (.int p5), .val (.int l0), .val (.int l1), .val (.int l2), .val (.ref br_1), .val (.ref br_2), .val (.ref br_4), .val (.ref b8), .val (.int (1 : Int32))]) rfl) ?_
      show own_End p e below P (T250.setTop (mkF m 219 #[.val (.int p0), .val (.int p1), .val (.int p2), .val (.int p3), .val (.int p4), .val (.int p5), .val (.int l0), .val (.int l1), .val (.int l2), .val (.ref br_1), .val (.ref br_2), .val (.ref br_4), .val (.ref b8), .val (.int (1 : Int32))] []))
      refine own_st (fun _ => XS.iload X250.here hx rfl (hb hby at_219) rfl) ?_
      show own_End p e below P (T250.setTop (mkF m 221 #[.val (.int p0), .val (.int p1), .val (.int p2), .val (.int p3), .val (.int p4), .val (.int p5), .val (.int l0), .val (.int l1), .val (.int l2), .val (.ref br_1), .val (.ref br_2), .val (.ref br_4), .val (.ref b8), .val (.int (1 : Int32))] [(.int (1 : Int32))]))
      refine own_st (fun _ => XS.ifNo X250.here hx rfl (hb hby at_221) rfl ((if0 _ _).trans (feq (by decide : ¬ ((1 : Int32) = (0 : Int32)))).1)) ?_
      show own_End p e below P (T250.setTop (mkF m 224 #[.val (.int p0), .val (.int p1), .val (.int p2), .val (.int p3), .val (.int p4), .val (.int p5), .val (.int l0), .val (.int l1), .val (.int l2), .val (.ref br_1), .val (.ref br_2), .val (.ref br_4), .val (.ref b8), .val (.int (1 : Int32))] []))
      refine own_st (fun _ => XS.aload X250.here hx rfl (hb hby at_224) rfl rfl) ?_
      show own_End p e below P (T250.setTop (mkF m 226 #[.val (.int p0), .val (.int p1), .val (.int p2), .val (.int p3), .val (.int p4), .val (.int p5), .val (.int l0), .val (.int l1), .val (.int l2), .val (.ref br_1), .val (.ref br_2), .val (.ref br_4), .val (.ref b8), .val (.int (1 : Int32))] [(.ref b8)]))
      refine own_st (fun _ => XS.iconst X250.here hx rfl (hb hby at_226)) ?_
      show own_End p e below P (T250.setTop (mkF m 227 #[.val (.int p0), .val (.int p1), .val (.int p2), .val (.int p3), .val (.int p4), .val (.int p5), .val (.int l0), .val (.int l1), .val (.int l2), .val (.ref br_1), .val (.ref br_2), .val (.ref br_4), .val (.ref b8), .val (.int (1 : Int32))] [(.int (2 : Int32)), (.ref b8)]))
      have G251 := (Ac234.keep Kq235 nin0)
      have Ac252 : own_IA Z T235.heap b2_14 (((own_mk l0 p1 p2) ++ (own_mk l1 p3 p4)) ++ ((own_mk l2 p5 f) ++ (List.replicate ((((c0 + c1 + c2) - (own_mk l0 p1 p2).length) - (own_mk l1 p3 p4).length) - (own_mk l2 p5 f).length) (0 : Int32)))) := by simpa only [List.append_assoc, List.nil_append, List.append_nil] using G251
      have G254 := (G236.keep Kq235 nin0)
      have G255 := (G237.keep Kq235 nin0)
      have G256 := (G238.keep Kq235 nin0)
      have G257 := (G239.keep Kq235)
      refine own_callV X250 hx hZ (y := (⟨"com/example/ruangwaktu/ruangwaktu/exam/Enrolments", "examsOf", "(I)[I"⟩ : MethodName)) (z := (⟨"com/example/ruangwaktu/ruangwaktu/exam/Enrolments", "examsOf", "(I)[I"⟩ : MethodName)) hown (hw _ (List.mem_of_getElem? (i := 39) rfl)) (hw _ (List.mem_of_getElem? (i := 40) rfl)) (notFace_of_selects (args := #[]) (mvT hZ (hw _ (List.mem_of_getElem? (i := 42) rfl)))) (hw _ (List.mem_of_getElem? (i := 42) rfl)) (hw _ (List.mem_of_getElem? (i := 41) rfl)) (hw _ (List.mem_of_getElem? (i := 7) rfl)) (hw _ (List.mem_of_getElem? (i := 43) rfl)) (by decide) G257 (own_mex2 l Z a0 hw [] b8 u1 u2 u3 ((own_mk l0 p1 p2) ++ (own_mk l1 p3 p4)) (own_mk l2 p5 f) (List.replicate ((((c0 + c1 + c2) - (own_mk l0 p1 p2).length) - (own_mk l1 p3 p4).length) - (own_mk l2 p5 f).length) (0 : Int32)) b2_14 b7_14 T235.heap n0 (Nat.le_trans Z0 K235.1) G254 G255 Ac252 G256 (by simpa using hv2) (by rw [hv3]; simp <;> omega) (by simp; omega)) 0 (by decide) (by decide) eq250 (by decide) (by decide) (g := (mkF m 227 #[.val (.int p0), .val (.int p1), .val (.int p2), .val (.int p3), .val (.int p4), .val (.int p5), .val (.int l0), .val (.int l1), .val (.int l2), .val (.ref br_1), .val (.ref br_2), .val (.ref br_4), .val (.ref b8), .val (.int (1 : Int32))] [(.int (2 : Int32)), (.ref b8)])) rfl (by rw [hml']; rfl) (argsL := [(.int (2 : Int32))]) (rest := []) rfl (lenOf own_pd_I__I_318 rfl) rfl (by show 2 * 0 + _ ≤ _; exact Nat.le_of_eq rfl) (hb hby at_227) (fun r253 T253 L253 X253 hQ253 => ?_)
      obtain ⟨br_253, rfl, Nq253, Kq253, szq_br_253, low_br_253, f0_253⟩ := hQ253
      have N253 := Fr.app N250 Nq253
      have ne258 : b2_14 ≠ br_253 := Nat.ne_of_lt (Nat.lt_of_lt_of_le Ac252.lt szq_br_253)
      have ne259 : b7_14 ≠ br_253 := Nat.ne_of_lt (Nat.lt_of_lt_of_le G256.lt szq_br_253)
      have ne260 : b8 ≠ br_253 := Nat.ne_of_lt (Nat.lt_of_lt_of_le G257.lt szq_br_253)
      have G261 := (G243.keep Kq235 nin0)
      have ne262 : br_1 ≠ br_253 := Nat.ne_of_lt (Nat.lt_of_lt_of_le G261.lt szq_br_253)
      have G263 := (G245.keep Kq235 nin0)
      have ne264 : br_2 ≠ br_253 := Nat.ne_of_lt (Nat.lt_of_lt_of_le G263.lt szq_br_253)
      have G265 := (f0_222.keep Kq235 nin0)
      have ne266 : br_222 ≠ br_253 := Nat.ne_of_lt (Nat.lt_of_lt_of_le G265.lt szq_br_253)
      have ne267 : br_235 ≠ br_253 := Nat.ne_of_lt (Nat.lt_of_lt_of_le f0_235.lt szq_br_253)
      have G268 := (G248.keep Kq235 nin0)
      have ne269 : br_4 ≠ br_253 := Nat.ne_of_lt (Nat.lt_of_lt_of_le G268.lt szq_br_253)
      have sz_br_253 := Nat.le_trans K235.1 szq_br_253
      have K253 := Keep.trans K235 Kq253 all0
      show own_End p e below P (T253.setTop (mkF m 230 #[.val (.int p0), .val (.int p1), .val (.int p2), .val (.int p3), .val (.int p4), .val (.int p5), .val (.int l0), .val (.int l1), .val (.int l2), .val (.ref br_1), .val (.ref br_2), .val (.ref br_4), .val (.ref b8), .val (.int (1 : Int32))] [(.ref br_253)]))
      refine own_st (fun _ => XS.iload X253.here hx rfl (hb hby at_230) rfl) ?_
      show own_End p e below P (T253.setTop (mkF m 232 #[.val (.int p0), .val (.int p1), .val (.int p2), .val (.int p3), .val (.int p4), .val (.int p5), .val (.int l0), .val (.int l1), .val (.int l2), .val (.ref br_1), .val (.ref br_2), .val (.ref br_4), .val (.ref b8), .val (.int (1 : Int32))] [(.int l2), (.ref br_253)]))
      refine own_st (fun _ => XS.iload X253.here hx rfl (hb hby at_232) rfl) ?_
      show own_End p e below P (T253.setTop (mkF m 234 #[.val (.int p0), .val (.int p1), .val (.int p2), .val (.int p3), .val (.int p4), .val (.int p5), .val (.int l0), .val (.int l1), .val (.int l2), .val (.ref br_1), .val (.ref br_2), .val (.ref br_4), .val (.ref b8), .val (.int (1 : Int32))] [(.int p5), (.int l2), (.ref br_253)]))
      refine own_st (fun _ => XS.iload X253.here hx rfl (hb hby at_234) rfl) ?_
      show own_End p e below P (T253.setTop (mkF m 236 #[.val (.int p0), .val (.int p1), .val (.int p2), .val (.int p3), .val (.int p4), .val (.int p5), .val (.int l0), .val (.int l1), .val (.int l2), .val (.ref br_1), .val (.ref br_2), .val (.ref br_4), .val (.ref b8), .val (.int (1 : Int32))] [(.int p5), (.int p5), (.int l2), (.ref br_253)]))
      refine own_st (fun _ => XS.iconst X253.here hx rfl (hb hby at_236)) ?_
      show own_End p e below P (T253.setTop (mkF m 237 #[.val (.int p0), .val (.int p1), .val (.int p2), .val (.int p3), .val (.int p4), .val (.int p5), .val (.int l0), .val (.int l1), .val (.int l2), .val (.ref br_1), .val (.ref br_2), .val (.ref br_4), .val (.ref b8), .val (.int (1 : Int32))] [(.int (-1 : Int32)), (.int p5), (.int p5), (.int l2), (.ref br_253)]))
      refine own_st (fun _ => XS.ixor X253.here hx rfl (hb hby at_237) rfl) ?_
      show own_End p e below P (T253.setTop (mkF m 238 #[.val (.int p0), .val (.int p1), .val (.int p2), .val (.int p3), .val (.int p4), .val (.int p5), .val (.int l0), .val (.int l1), .val (.int l2), .val (.ref br_1), .val (.ref br_2), .val (.ref br_4), .val (.ref b8), .val (.int (1 : Int32))] [(.int (p5 ^^^ (-1 : Int32))), (.int p5), (.int l2), (.ref br_253)]))
      rw [← e_f]
      show own_End p e below P (T253.setTop (mkF m 238 #[.val (.int p0), .val (.int p1), .val (.int p2), .val (.int p3), .val (.int p4), .val (.int p5), .val (.int l0), .val (.int l1), .val (.int l2), .val (.ref br_1), .val (.ref br_2), .val (.ref br_4), .val (.ref b8), .val (.int (1 : Int32))] [(.int f), (.int p5), (.int l2), (.ref br_253)]))
      refine own_callS X253 hx hZ (y := (⟨"com/example/ruangwaktu/ruangwaktu/exam/EnrolmentsAddPinLaw", "same", "([IIII)Z"⟩ : MethodName)) hown (hw _ (List.mem_of_getElem? (i := 57) rfl)) (hw _ (List.mem_of_getElem? (i := 58) rfl)) (hw _ (List.mem_of_getElem? (i := 2) rfl)) (hw _ (List.mem_of_getElem? (i := 59) rfl)) (by decide) (own_msame l Z a0 hw [] br_253 l2 p5 f c2 T253.heap n0 (Nat.le_trans Z0 K253.1) f0_253 hl2 hm2) 0 (by decide) (by decide) rfl (by decide) (by decide) (g := (mkF m 238 #[.val (.int p0), .val (.int p1), .val (.int p2), .val (.int p3), .val (.int p4), .val (.int p5), .val (.int l0), .val (.int l1), .val (.int l2), .val (.ref br_1), .val (.ref br_2), .val (.ref br_4), .val (.ref b8), .val (.int (1 : Int32))] [(.int f), (.int p5), (.int l2), (.ref br_253)])) rfl (by rw [hml']; rfl) (argsL := [(.ref br_253), (.int l2), (.int p5), (.int f)]) (rest := []) rfl (lenOf own_pd_IIII_Z_554 rfl) rfl (by show 2 * 0 + _ ≤ _; exact Nat.le_of_eq rfl) (hb hby at_238) (fun r270 T270 L270 X270 hQ270 => ?_)
      obtain ⟨rfl, Nq270, eq270⟩ := hQ270
      have N270 := Fr.app N253 Nq270
      show own_End p e below P (T270.setTop (mkF m 241 #[.val (.int p0), .val (.int p1), .val (.int p2), .val (.int p3), .val (.int p4), .val (.int p5), .val (.int l0), .val (.int l1), .val (.int l2), .val (.ref br_1), .val (.ref br_2), .val (.ref br_4), .val (.ref b8), .val (.int (1 : Int32))] [(.int (1 : Int32))]))
      refine own_st (fun _ => XS.ifNo X270.here hx rfl (hb hby at_241) rfl ((if0 _ _).trans (feq (by decide : ¬ ((1 : Int32) = (0 : Int32)))).1)) ?_
      show own_End p e below P (T270.setTop (mkF m 244 #[.val (.int p0), .val (.int p1), .val (.int p2), .val (.int p3), .val (.int p4), .val (.int p5), .val (.int l0), .val (.int l1), .val (.int l2), .val (.ref br_1), .val (.ref br_2), .val (.ref br_4), .val (.ref b8), .val (.int (1 : Int32))] []))
      refine own_st (fun _ => XS.iconst X270.here hx rfl (hb hby at_244)) ?_
      show own_End p e below P (T270.setTop (mkF m 245 #[.val (.int p0), .val (.int p1), .val (.int p2), .val (.int p3), .val (.int p4), .val (.int p5), .val (.int l0), .val (.int l1), .val (.int l2), .val (.ref br_1), .val (.ref br_2), .val (.ref br_4), .val (.ref b8), .val (.int (1 : Int32))] [(.int (1 : Int32))]))
      refine own_st (fun _ => XS.goto X270.here hx rfl (pc0 := 245) (pc' := 249) rfl (hb hby at_245) (by decide) (by decide)) ?_
      show own_End p e below P (T270.setTop (mkF m 249 #[.val (.int p0), .val (.int p1), .val (.int p2), .val (.int p3), .val (.int p4), .val (.int p5), .val (.int l0), .val (.int l1), .val (.int l2), .val (.ref br_1), .val (.ref br_2), .val (.ref br_4), .val (.ref b8), .val (.int (1 : Int32))] [(.int (1 : Int32))]))
      refine own_st (fun _ => XS.istore X270.here hx rfl (hb hby at_249) rfl (l' := #[.val (.int p0), .val (.int p1), .val (.int p2), .val (.int p3), .val (.int p4), .val (.int p5), .val (.int l0), .val (.int l1), .val (.int l2), .val (.ref br_1), .val (.ref br_2), .val (.ref br_4), .val (.ref b8), .val (.int (1 : Int32))]) rfl) ?_
      show own_End p e below P (T270.setTop (mkF m 251 #[.val (.int p0), .val (.int p1), .val (.int p2), .val (.int p3), .val (.int p4), .val (.int p5), .val (.int l0), .val (.int l1), .val (.int l2), .val (.ref br_1), .val (.ref br_2), .val (.ref br_4), .val (.ref b8), .val (.int (1 : Int32))] []))
      refine own_st (fun _ => XS.iload X270.here hx rfl (hb hby at_251) rfl) ?_
      show own_End p e below P (T270.setTop (mkF m 253 #[.val (.int p0), .val (.int p1), .val (.int p2), .val (.int p3), .val (.int p4), .val (.int p5), .val (.int l0), .val (.int l1), .val (.int l2), .val (.ref br_1), .val (.ref br_2), .val (.ref br_4), .val (.ref b8), .val (.int (1 : Int32))] [(.int (1 : Int32))]))
      exact own_retN X270 hx hlk hP (t := .boolean) (by simp) hrt (hb hby at_253) (by decide) (by decide) ⟨rfl, N270⟩
set_option maxRecDepth 65536 in
set_option maxHeartbeats 40000000 in
theorem comes_1 {Post : Tables → Env → Array Value → State → Outcome → State → Prop} (hpost : ∀ tb e args s v u, (limb_1_1.after args s (.returned v) u = true ∧ limb_1_2.after args s (.returned v) u = true ∧ True) → FrameEnd s (.returned v) u (Jvm.fieldLocs frame_1_writes args s ++ Jvm.arrayLocs frame_1_arrays args s ++ Jvm.staticLocs frame_1_statics s) 32 128 → Post tb e args s (.returned v) u) :
    ArmFor flags0 classFile x code maxLocals ret World_1 tables_1 room_1 Calls_1 rest_1 Pre_1 Post := by
  intro l hfl _ _ p e ha hc hk s m args below hf hA hF happ hP
  obtain ⟨hcalls, hrest, hpre⟩ := hP
  obtain ⟨-, -, -, hnamed, -, -, -, hat⟩ := (Spec.applies_iff hf).mp happ
  obtain ⟨hg, hn⟩ := and_e (Cond.before_iff.mp (show (Jvm.Cond.and given_1 narrow_1).before args s = true from hpre))
  obtain ⟨k1, l1⟩ := and_e hg
  obtain ⟨k2, l2⟩ := and_e l1
  obtain ⟨k3, l3⟩ := and_e l2
  obtain ⟨k4, l4⟩ := and_e l3
  obtain ⟨k5, l5⟩ := and_e l4
  obtain ⟨k6, l6⟩ := and_e l5
  obtain ⟨w0, w1, w2, w3, w4, w5, rfl⟩ : ∃ w0 w1 w2 w3 w4 w5 : Value, args = #[w0, w1, w2, w3, w4, w5] := by
    have hs : args.size = 6 := by simpa [Cond.value, given_1] using k1
    obtain ⟨L⟩ := args
    match L, hs with
    | [w0, w1, w2, w3, w4, w5], _ => exact ⟨w0, w1, w2, w3, w4, w5, rfl⟩
  have hw := fun d (hd : d ∈ tables_1) => atoms_spec (ws := Jvm.Cond.code x code maxLocals ret :: tables_1) hat d (List.mem_cons_of_mem _ hd)
  have hfit : Fit s := fun {y c} hc i hi => by
    obtain ⟨ha, rfl⟩ := Array.getElem?_eq_some_iff.mp hc
    have q := List.all_eq_true.mp ((Array.all_eq_true_iff_forall_mem.mp hF) _ (Array.getElem_mem ha)) i (List.mem_range.mpr hi)
    simpa [Array.getElem?_eq_getElem hi] using q
  obtain ⟨i0, ei0⟩ := is_v k2
  obtain rfl : w0 = (.int i0) := Option.some.inj ei0
  obtain ⟨i1, ei1⟩ := is_v k3
  obtain rfl : w1 = (.int i1) := Option.some.inj ei1
  obtain ⟨i2, ei2⟩ := is_v k4
  obtain rfl : w2 = (.int i2) := Option.some.inj ei2
  obtain ⟨i3, ei3⟩ := is_v k5
  obtain rfl : w3 = (.int i3) := Option.some.inj ei3
  obtain ⟨i4, ei4⟩ := is_v k6
  obtain rfl : w4 = (.int i4) := Option.some.inj ei4
  obtain ⟨i5, ei5⟩ := is_v l6
  obtain rfl : w5 = (.int i5) := Option.some.inj ei5
  obtain ⟨n, o, h1, h2, h3, _, L, rfl, ⟨rfl, N⟩, hq⟩ := own_m0 l s _ hw tables_1 i0 i1 i2 i3 i4 i5  s.heap s.heap.size (Nat.le_refl _)  p e ha hc hk s m _ below hf ((Spec.applies_iff_loose hf).mp happ).1 ⟨rfl, State.Warmed39.refl s, rfl⟩ trivial
  refine ⟨n, _, h1, h2, h3, hpost _ _ _ _ _ _ ⟨Cond.after_iff.mpr rfl, Cond.after_iff.mpr (eq_i res_at (Term.int_eval (1)) rfl), trivial⟩ ⟨hq.1, hq.2.1, (hq.2.2.sift fun y hy => Or.inr (N y hy)).mono (by decide) (by decide)⟩⟩
theorem main_1_1 : Claimed_1_1 := comes_1 fun _ _ _ _ _ _ h hF => ⟨h.1, hF⟩
theorem main_1_2 : Claimed_1_2 := comes_1 fun _ _ _ _ _ _ h hF => ⟨h.2.1, hF⟩
end Jvm.Pilot.@@N@@
namespace Jvm.Pilot.@@N@@
open Jvm Jvm.ClassFile Sem Op Lib Jvm.Free Jvm.Stand Jvm.Pilot.@@N@@.Jvm.D
/-! MADE BY PROGRAM (witnessworld.py) out of the Statement's table words and the real class files: 12 classes; the members and pool entries that the words name. The judged class is class 1, her method 3. -/
namespace start1
open Jvm.ClassFile
def u (s : String) : CpInfo := .utf8 (stringToUtf16 s)
/-- a pool by its gaps: so many unusable entries, then the entry; so many at the end -/
def gap : Nat → List CpInfo → List CpInfo
  | 0, r => r
  | n + 1, r => .unusable :: gap n r
def poolList (es : List (Nat × CpInfo)) (last : Nat) : List CpInfo := es.foldr (fun e r => gap e.1 (e.2 :: r)) (gap last [])
def pool (es : List (Nat × CpInfo)) (last : Nat) : Array CpInfo := ⟨poolList es last⟩
def fileOf (pool : Array CpInfo) (this : Nat) (attrs : Array Attribute := #[]) (ms : Array MethodInfo := #[]) (fl : Nat := 33) (sup : Nat := 0) (ifs : Array Nat := #[]) (fds : Array FieldInfo := #[]) : ClassFile where
  minorVersion := 0
  majorVersion := 65
  constantPool := pool
  accessFlags := fl
  thisClass := this
  superClass := sup
  interfaces := ifs
  fields := fds
  methods := ms
  attributes := attrs
def plain (name : String) (sup : Option ClassId) : Class where
  name := name
  kind := .ordinary
  loader := none
  accessFlags := 33
  super := sup
  interfaces := #[]
  cf := none
  fields := #[]
  methods := #[]
  instanceTypes := #[]
  staticTypes := #[]
  resolved := #[]
  callSites := []
  init := .initialized
  statics := none
  mirror := none

def pool0 : Array CpInfo := pool [(5, u "<init>"), (0, u "()V"), (1, .class_ 10), (1, u "java/lang/Object"), (85, u "clone"), (0, u "()Ljava/lang/Object;")] 26

def k0c0 : Code := { maxStack := 0, maxLocals := 1, code := object_method_1_code, exceptionTable := #[], attributes := #[] }
def k0m0 : Method := { name := "<init>", desc := "()V", sig := { parameters := [], returnType := none }, accessFlags := 1, code := some k0c0 }
def k0m1 : Method := { name := "clone", desc := "()Ljava/lang/Object;", sig := { parameters := [], returnType := some (.object "java/lang/Object") }, accessFlags := 260, code := none }
/-- java/lang/Object -/
def k0 : Class := { plain "java/lang/Object" none with
  accessFlags := 33
  interfaces := #[]
  cf := some (fileOf pool0 8 #[] #[{ accessFlags := 1, nameIndex := 5, descriptorIndex := 6, attributes := #[] }, { accessFlags := 260, nameIndex := 96, descriptorIndex := 97, attributes := #[] }] 33 0 #[] #[])
  fields := #[]
  methods := #[k0m0, k0m1]
  instanceTypes := #[]
  staticTypes := #[]
  resolved := Array.replicate 124 none
  statics := none }

def pool1 : Array CpInfo := pool [(2, .class_ 4), (1, u "java/lang/Object"), (0, u "<init>"), (0, u "()V"), (0, .methodref 8 9), (0, .class_ 10), (0, .nameAndType 11 12), (0, u "com/example/ruangwaktu/ruangwaktu/exam/EnrolmentsAddPinLaw"), (0, u "make"), (0, u "(III)[I"), (0, .class_ 14), (0, u "com/example/ruangwaktu/ruangwaktu/exam/Enrolments"), (0, .methodref 13 16), (0, .nameAndType 5 17), (0, u "(II)V"), (0, .methodref 13 19), (0, .nameAndType 20 21), (0, u "add"), (0, u "([I)V"), (0, .methodref 13 23), (0, .nameAndType 24 25), (0, u "students"), (0, u "()I"), (0, .methodref 13 27), (0, .nameAndType 28 25), (0, u "total"), (0, .methodref 13 30), (0, .nameAndType 31 32), (0, u "examsOf"), (0, u "(I)[I"), (0, .methodref 8 34), (0, .nameAndType 35 36), (0, u "same"), (0, u "([IIII)Z"), (3, u "law"), (0, u "(IIIIII)Z")] 4

def k1m0 : Method := { name := "<init>", desc := "()V", sig := { parameters := [], returnType := none }, accessFlags := 1, code := none }
def k1c1 : Code := { maxStack := 3, maxLocals := 4, code := method_2_code, exceptionTable := #[], attributes := #[] }
def k1m1 : Method := { name := "make", desc := "(III)[I", sig := { parameters := [.int, .int, .int], returnType := some (.array .int) }, accessFlags := 10, code := some k1c1 }
def k1c2 : Code := { maxStack := 2, maxLocals := 4, code := method_3_code, exceptionTable := #[], attributes := #[] }
def k1m2 : Method := { name := "same", desc := "([IIII)Z", sig := { parameters := [(.array .int), .int, .int, .int], returnType := some .boolean }, accessFlags := 10, code := some k1c2 }
def k1c3 : Code := { maxStack := 5, maxLocals := 14, code := code, exceptionTable := #[], attributes := #[] }
def k1m3 : Method := { name := "law", desc := "(IIIIII)Z", sig := { parameters := [.int, .int, .int, .int, .int, .int], returnType := some .boolean }, accessFlags := 9, code := some k1c3 }
/-- com/example/ruangwaktu/ruangwaktu/exam/EnrolmentsAddPinLaw -/
def k1 : Class := { plain "com/example/ruangwaktu/ruangwaktu/exam/EnrolmentsAddPinLaw" (some 0) with
  accessFlags := 49
  interfaces := #[]
  cf := some (fileOf pool1 8 #[] #[{ accessFlags := 1, nameIndex := 5, descriptorIndex := 6, attributes := #[] }, { accessFlags := 10, nameIndex := 11, descriptorIndex := 12, attributes := #[] }, { accessFlags := 10, nameIndex := 35, descriptorIndex := 36, attributes := #[] }, { accessFlags := 9, nameIndex := 40, descriptorIndex := 41, attributes := #[] }] 49 2 #[] #[])
  fields := #[]
  methods := #[k1m0, k1m1, k1m2, k1m3]
  instanceTypes := #[]
  staticTypes := #[]
  resolved := Array.replicate 46 none
  statics := none }

def pool2 : Array CpInfo := pool [(1, .methodref 2 3), (0, .class_ 4), (0, .nameAndType 5 6), (0, u "java/lang/Object"), (0, u "<init>"), (0, u "()V"), (0, .fieldref 8 9), (0, .class_ 10), (0, .nameAndType 11 12), (0, u "com/example/ruangwaktu/ruangwaktu/exam/Enrolments"), (0, u "_exams"), (0, u "[I"), (0, .fieldref 8 14), (0, .nameAndType 15 12), (0, u "_starts"), (0, .fieldref 8 17), (0, .nameAndType 18 19), (0, u "_students"), (0, u "I"), (0, .methodref 21 22), (0, .class_ 23), (0, .nameAndType 24 25), (0, u "java/lang/System"), (0, u "arraycopy"), (0, u "(Ljava/lang/Object;ILjava/lang/Object;II)V"), (0, .methodref 27 28), (0, .class_ 29), (0, .nameAndType 30 31), (0, u "java/util/Arrays"), (0, u "copyOfRange"), (0, u "([III)[I"), (0, u "(II)V"), (2, u "add"), (0, u "([I)V"), (0, u "students"), (0, u "()I"), (0, u "total"), (0, u "examsOf"), (0, u "(I)[I")] 2

def k2c0 : Code := { maxStack := 3, maxLocals := 3, code := prog_17_method_1_code, exceptionTable := #[], attributes := #[] }
def k2m0 : Method := { name := "<init>", desc := "(II)V", sig := { parameters := [.int, .int], returnType := none }, accessFlags := 0, code := some k2c0 }
def k2c1 : Code := { maxStack := 5, maxLocals := 3, code := prog_17_method_2_code, exceptionTable := #[], attributes := #[] }
def k2m1 : Method := { name := "add", desc := "([I)V", sig := { parameters := [(.array .int)], returnType := none }, accessFlags := 0, code := some k2c1 }
def k2c2 : Code := { maxStack := 1, maxLocals := 1, code := prog_17_method_3_code, exceptionTable := #[], attributes := #[] }
def k2m2 : Method := { name := "students", desc := "()I", sig := { parameters := [], returnType := some .int }, accessFlags := 0, code := some k2c2 }
def k2c3 : Code := { maxStack := 2, maxLocals := 1, code := prog_17_method_4_code, exceptionTable := #[], attributes := #[] }
def k2m3 : Method := { name := "total", desc := "()I", sig := { parameters := [], returnType := some .int }, accessFlags := 0, code := some k2c3 }
def k2c4 : Code := { maxStack := 5, maxLocals := 2, code := prog_17_method_5_code, exceptionTable := #[], attributes := #[] }
def k2m4 : Method := { name := "examsOf", desc := "(I)[I", sig := { parameters := [.int], returnType := some (.array .int) }, accessFlags := 0, code := some k2c4 }
/-- com/example/ruangwaktu/ruangwaktu/exam/Enrolments -/
def k2 : Class := { plain "com/example/ruangwaktu/ruangwaktu/exam/Enrolments" (some 0) with
  accessFlags := 48
  interfaces := #[]
  cf := some (fileOf pool2 8 #[] #[{ accessFlags := 0, nameIndex := 5, descriptorIndex := 32, attributes := #[] }, { accessFlags := 0, nameIndex := 35, descriptorIndex := 36, attributes := #[] }, { accessFlags := 0, nameIndex := 37, descriptorIndex := 38, attributes := #[] }, { accessFlags := 0, nameIndex := 39, descriptorIndex := 38, attributes := #[] }, { accessFlags := 0, nameIndex := 40, descriptorIndex := 41, attributes := #[] }] 48 2 #[] #[{ accessFlags := 18, nameIndex := 11, descriptorIndex := 12, attributes := #[] }, { accessFlags := 18, nameIndex := 15, descriptorIndex := 12, attributes := #[] }, { accessFlags := 2, nameIndex := 18, descriptorIndex := 19, attributes := #[] }])
  fields := #[{ name := "_exams", type := (.array .int), accessFlags := 18, slot := 0, constantValue := 0 }, { name := "_starts", type := (.array .int), accessFlags := 18, slot := 1, constantValue := 0 }, { name := "_students", type := .int, accessFlags := 2, slot := 2, constantValue := 0 }]
  methods := #[k2m0, k2m1, k2m2, k2m3, k2m4]
  instanceTypes := #[(.array .int), (.array .int), .int]
  staticTypes := #[]
  resolved := Array.replicate 44 none
  statics := none }

def pool3 : Array CpInfo := pool [(2, .class_ 4), (1, u "java/lang/Object"), (0, u "<init>"), (0, u "()V"), (1, .class_ 10), (1, u "java/lang/System"), (0, u "allowSecurityManager"), (0, u "I"), (16, u "cons"), (0, u "Ljava/io/Console;"), (77, .class_ 110), (1, u "java/lang/System$CallersHolder"), (43, u "initialErrStream"), (0, u "Ljava/io/PrintStream;"), (19, u "security"), (0, u "Ljava/lang/SecurityManager;"), (31, .class_ 209), (0, u "java/lang/System$1"), (7, u "props"), (0, u "Ljava/util/Properties;"), (2, u "lineSeparator"), (0, u "Ljava/lang/String;"), (96, .class_ 321), (1, u "java/lang/System$LoggerFinder"), (5, .class_ 328), (0, u "java/lang/System$Logger"), (67, u "err"), (2, u "out"), (91, u "notSupportedJnuEncoding"), (15, u "in"), (17, u "initialIn"), (0, u "Ljava/io/InputStream;"), (35, u "bootLayer"), (0, u "Ljava/lang/ModuleLayer;"), (99, .class_ 664), (0, u "java/lang/System$2"), (9, u "NEVER"), (2, u "MAYBE"), (49, u "arraycopy"), (0, u "(Ljava/lang/Object;ILjava/lang/Object;II)V"), (72, .class_ 802), (0, u "java/lang/System$Logger$Level")] 31

def k3m0 : Method := { name := "<init>", desc := "()V", sig := { parameters := [], returnType := none }, accessFlags := 2, code := none }
def k3m1 : Method := { name := "arraycopy", desc := "(Ljava/lang/Object;ILjava/lang/Object;II)V", sig := { parameters := [(.object "java/lang/Object"), .int, (.object "java/lang/Object"), .int, .int], returnType := none }, accessFlags := 265, code := none }
/-- java/lang/System -/
def k3 : Class := { plain "java/lang/System" (some 0) with
  accessFlags := 49
  interfaces := #[]
  cf := some (fileOf pool3 8 #[.nestMembers #[319, 327, 801, 108, 663, 208]] #[{ accessFlags := 2, nameIndex := 5, descriptorIndex := 6, attributes := #[] }, { accessFlags := 265, nameIndex := 727, descriptorIndex := 728, attributes := #[] }] 49 2 #[] #[{ accessFlags := 25, nameIndex := 507, descriptorIndex := 526, attributes := #[] }, { accessFlags := 25, nameIndex := 399, descriptorIndex := 155, attributes := #[] }, { accessFlags := 25, nameIndex := 396, descriptorIndex := 155, attributes := #[] }, { accessFlags := 10, nameIndex := 525, descriptorIndex := 526, attributes := #[] }, { accessFlags := 26, nameIndex := 674, descriptorIndex := 12, attributes := #[] }, { accessFlags := 26, nameIndex := 677, descriptorIndex := 12, attributes := #[] }, { accessFlags := 10, nameIndex := 11, descriptorIndex := 12, attributes := #[] }, { accessFlags := 74, nameIndex := 175, descriptorIndex := 176, attributes := #[] }, { accessFlags := 10, nameIndex := 491, descriptorIndex := 222, attributes := #[] }, { accessFlags := 74, nameIndex := 29, descriptorIndex := 30, attributes := #[] }, { accessFlags := 74, nameIndex := 154, descriptorIndex := 155, attributes := #[] }, { accessFlags := 10, nameIndex := 217, descriptorIndex := 218, attributes := #[] }, { accessFlags := 10, nameIndex := 221, descriptorIndex := 222, attributes := #[] }, { accessFlags := 8, nameIndex := 562, descriptorIndex := 563, attributes := #[] }])
  fields := #[{ name := "in", type := (.object "java/io/InputStream"), accessFlags := 25, slot := 0, constantValue := 0 }, { name := "out", type := (.object "java/io/PrintStream"), accessFlags := 25, slot := 1, constantValue := 0 }, { name := "err", type := (.object "java/io/PrintStream"), accessFlags := 25, slot := 2, constantValue := 0 }, { name := "initialIn", type := (.object "java/io/InputStream"), accessFlags := 10, slot := 3, constantValue := 0 }, { name := "NEVER", type := .int, accessFlags := 26, slot := 4, constantValue := 0 }, { name := "MAYBE", type := .int, accessFlags := 26, slot := 5, constantValue := 0 }, { name := "allowSecurityManager", type := .int, accessFlags := 10, slot := 6, constantValue := 0 }, { name := "security", type := (.object "java/lang/SecurityManager"), accessFlags := 74, slot := 7, constantValue := 0 }, { name := "notSupportedJnuEncoding", type := (.object "java/lang/String"), accessFlags := 10, slot := 8, constantValue := 0 }, { name := "cons", type := (.object "java/io/Console"), accessFlags := 74, slot := 9, constantValue := 0 }, { name := "initialErrStream", type := (.object "java/io/PrintStream"), accessFlags := 74, slot := 10, constantValue := 0 }, { name := "props", type := (.object "java/util/Properties"), accessFlags := 10, slot := 11, constantValue := 0 }, { name := "lineSeparator", type := (.object "java/lang/String"), accessFlags := 10, slot := 12, constantValue := 0 }, { name := "bootLayer", type := (.object "java/lang/ModuleLayer"), accessFlags := 8, slot := 13, constantValue := 0 }]
  methods := #[k3m0, k3m1]
  instanceTypes := #[]
  staticTypes := #[(.object "java/io/InputStream"), (.object "java/io/PrintStream"), (.object "java/io/PrintStream"), (.object "java/io/InputStream"), .int, .int, .int, (.object "java/lang/SecurityManager"), (.object "java/lang/String"), (.object "java/io/Console"), (.object "java/io/PrintStream"), (.object "java/util/Properties"), (.object "java/lang/String"), (.object "java/lang/ModuleLayer")]
  resolved := Array.replicate 834 none
  statics := none }

def pool4 : Array CpInfo := pool [(2, .class_ 4), (1, u "java/lang/Object"), (0, u "<init>"), (0, u "()V"), (7, .class_ 16), (1, u "java/util/Arrays"), (57, .class_ 76), (1, u "java/util/Arrays$NaturalOrder"), (32, u "()Ljava/lang/Object;"), (3, .class_ 115), (1, u "java/util/Arrays$LegacyMergeSort"), (1, u "Z"), (10, .nameAndType 129 109), (0, u "clone"), (9, u "copyOfRange"), (10, .methodref 151 152), (0, .class_ 153), (0, .nameAndType 154 155), (0, u "java/lang/System"), (0, u "arraycopy"), (0, u "(Ljava/lang/Object;ILjava/lang/Object;II)V"), (148, .methodref 305 306), (0, .class_ 307), (0, .nameAndType 308 309), (0, u "java/lang/Math"), (0, u "min"), (0, u "(II)I"), (6, .methodref 317 128), (0, .class_ 318), (0, u "[I"), (24, .methodref 14 344), (0, .nameAndType 345 346), (0, u "checkLength"), (0, u "(II)V"), (4, .methodref 14 352), (0, .nameAndType 353 354), (0, u "copyOfRangeInt"), (0, u "([III)[I"), (20, .class_ 376), (0, u "java/util/Arrays$ArrayList"), (68, u "$assertionsDisabled"), (269, u "MIN_ARRAY_SORT_GRAN"), (0, u "I"), (2, u "INSERTIONSORT_THRESHOLD"), (255, .class_ 976), (0, u "java/util/Arrays$ArrayItr")] 52

def k4m0 : Method := { name := "<init>", desc := "()V", sig := { parameters := [], returnType := none }, accessFlags := 2, code := none }
def k4c1 : Code := { maxStack := 4, maxLocals := 2, code := jdk_65_method_131_code, exceptionTable := #[], attributes := #[] }
def k4m1 : Method := { name := "checkLength", desc := "(II)V", sig := { parameters := [.int, .int], returnType := none }, accessFlags := 10, code := some k4c1 }
def k4c2 : Code := { maxStack := 3, maxLocals := 3, code := jdk_65_method_136_code, exceptionTable := #[], attributes := #[] }
def k4m2 : Method := { name := "copyOfRange", desc := "([III)[I", sig := { parameters := [(.array .int), .int, .int], returnType := some (.array .int) }, accessFlags := 9, code := some k4c2 }
def k4c3 : Code := { maxStack := 6, maxLocals := 5, code := jdk_65_method_137_code, exceptionTable := #[], attributes := #[] }
def k4m3 : Method := { name := "copyOfRangeInt", desc := "([III)[I", sig := { parameters := [(.array .int), .int, .int], returnType := some (.array .int) }, accessFlags := 10, code := some k4c3 }
/-- java/util/Arrays -/
def k4 : Class := { plain "java/util/Arrays" (some 0) with
  accessFlags := 49
  interfaces := #[]
  cf := some (fileOf pool4 14 #[.nestMembers #[975, 375, 113, 74]] #[{ accessFlags := 2, nameIndex := 5, descriptorIndex := 6, attributes := #[] }, { accessFlags := 10, nameIndex := 345, descriptorIndex := 346, attributes := #[] }, { accessFlags := 9, nameIndex := 139, descriptorIndex := 354, attributes := #[] }, { accessFlags := 10, nameIndex := 353, descriptorIndex := 354, attributes := #[] }] 49 2 #[] #[{ accessFlags := 26, nameIndex := 715, descriptorIndex := 716, attributes := #[] }, { accessFlags := 26, nameIndex := 719, descriptorIndex := 716, attributes := #[] }, { accessFlags := 4120, nameIndex := 445, descriptorIndex := 117, attributes := #[] }])
  fields := #[{ name := "MIN_ARRAY_SORT_GRAN", type := .int, accessFlags := 26, slot := 0, constantValue := 0 }, { name := "INSERTIONSORT_THRESHOLD", type := .int, accessFlags := 26, slot := 1, constantValue := 0 }, { name := "$assertionsDisabled", type := .boolean, accessFlags := 4120, slot := 2, constantValue := 0 }]
  methods := #[k4m0, k4m1, k4m2, k4m3]
  instanceTypes := #[]
  staticTypes := #[.int, .int, .boolean]
  resolved := Array.replicate 1029 none
  statics := none }

def pool5 : Array CpInfo := pool [(1, .class_ 2), (0, u "java/lang/Cloneable"), (0, .class_ 4), (0, u "java/lang/Object")] 2

/-- java/lang/Cloneable -/
def k5 : Class := { plain "java/lang/Cloneable" (some 0) with
  accessFlags := 1537
  interfaces := #[]
  cf := some (fileOf pool5 1 #[] #[] 1537 3 #[] #[])
  fields := #[]
  methods := #[]
  instanceTypes := #[]
  staticTypes := #[]
  resolved := Array.replicate 7 none
  statics := none }

def pool6 : Array CpInfo := pool [(1, .class_ 2), (0, u "java/lang/Math"), (1, .class_ 6), (1, u "java/lang/Object"), (0, u "<init>"), (0, u "()V"), (89, .class_ 100), (1, u "java/lang/Math$RandomNumberGeneratorHolder"), (71, u "negativeZeroFloatBits"), (0, u "J"), (2, u "negativeZeroDoubleBits"), (24, u "min"), (43, u "$assertionsDisabled"), (0, u "Z"), (88, u "(II)I"), (2, u "twoToTheDoubleScaleDown"), (0, u "D"), (4, u "twoToTheDoubleScaleUp"), (9, u "E"), (3, u "PI"), (2, u "TAU"), (2, u "DEGREES_TO_RADIANS"), (0, u "RADIANS_TO_DEGREES")] 94

def k6m0 : Method := { name := "<init>", desc := "()V", sig := { parameters := [], returnType := none }, accessFlags := 2, code := none }
def k6c1 : Code := { maxStack := 2, maxLocals := 2, code := jdk_29_method_69_code, exceptionTable := #[], attributes := #[] }
def k6m1 : Method := { name := "min", desc := "(II)I", sig := { parameters := [.int, .int], returnType := some .int }, accessFlags := 9, code := some k6c1 }
/-- java/lang/Math -/
def k6 : Class := { plain "java/lang/Math" (some 0) with
  accessFlags := 49
  interfaces := #[]
  cf := some (fileOf pool6 1 #[.nestMembers #[98]] #[{ accessFlags := 2, nameIndex := 7, descriptorIndex := 8, attributes := #[] }, { accessFlags := 9, nameIndex := 201, descriptorIndex := 335, attributes := #[] }] 49 4 #[] #[{ accessFlags := 25, nameIndex := 354, descriptorIndex := 339, attributes := #[] }, { accessFlags := 25, nameIndex := 358, descriptorIndex := 339, attributes := #[] }, { accessFlags := 25, nameIndex := 361, descriptorIndex := 339, attributes := #[] }, { accessFlags := 26, nameIndex := 364, descriptorIndex := 339, attributes := #[] }, { accessFlags := 26, nameIndex := 365, descriptorIndex := 339, attributes := #[] }, { accessFlags := 26, nameIndex := 172, descriptorIndex := 173, attributes := #[] }, { accessFlags := 26, nameIndex := 176, descriptorIndex := 173, attributes := #[] }, { accessFlags := 8, nameIndex := 344, descriptorIndex := 339, attributes := #[] }, { accessFlags := 8, nameIndex := 338, descriptorIndex := 339, attributes := #[] }, { accessFlags := 4120, nameIndex := 245, descriptorIndex := 246, attributes := #[] }])
  fields := #[{ name := "E", type := .double, accessFlags := 25, slot := 0, constantValue := 0 }, { name := "PI", type := .double, accessFlags := 25, slot := 1, constantValue := 0 }, { name := "TAU", type := .double, accessFlags := 25, slot := 2, constantValue := 0 }, { name := "DEGREES_TO_RADIANS", type := .double, accessFlags := 26, slot := 3, constantValue := 0 }, { name := "RADIANS_TO_DEGREES", type := .double, accessFlags := 26, slot := 4, constantValue := 0 }, { name := "negativeZeroFloatBits", type := .long, accessFlags := 26, slot := 5, constantValue := 0 }, { name := "negativeZeroDoubleBits", type := .long, accessFlags := 26, slot := 6, constantValue := 0 }, { name := "twoToTheDoubleScaleUp", type := .double, accessFlags := 8, slot := 7, constantValue := 0 }, { name := "twoToTheDoubleScaleDown", type := .double, accessFlags := 8, slot := 8, constantValue := 0 }, { name := "$assertionsDisabled", type := .boolean, accessFlags := 4120, slot := 9, constantValue := 0 }]
  methods := #[k6m0, k6m1]
  instanceTypes := #[]
  staticTypes := #[.double, .double, .double, .double, .double, .long, .long, .double, .double, .boolean]
  resolved := Array.replicate 460 none
  statics := none }

def pool7 : Array CpInfo := pool [(1, u "java/io/Serializable"), (0, .class_ 1), (0, u "java/lang/Object"), (0, .class_ 3)] 3

/-- java/io/Serializable -/
def k7 : Class := { plain "java/io/Serializable" (some 0) with
  accessFlags := 1537
  interfaces := #[]
  cf := some (fileOf pool7 2 #[] #[] 1537 4 #[] #[])
  fields := #[]
  methods := #[]
  instanceTypes := #[]
  staticTypes := #[]
  resolved := Array.replicate 8 none
  statics := none }

/-- the primitive byte -/
def k8 : Class := { plain "byte" none with kind := .primitive 'B', accessFlags := 0x411 }
/-- [B -/
def k9 : Class := { plain "[B" (some 0) with kind := .array 8 .byte, interfaces := #[5, 7], accessFlags := 1041 }

/-- the primitive int -/
def k10 : Class := { plain "int" none with kind := .primitive 'I', accessFlags := 0x411 }
/-- [I -/
def k11 : Class := { plain "[I" (some 0) with kind := .array 10 .int, interfaces := #[5, 7], accessFlags := 1041 }

def heap : Heap := #[]
def classes : Array Class := #[k0, k1, k2, k3, k4, k5, k6, k7, k8, k9, k10, k11]
def interned : List (Array UInt16 × Addr) := []
def slotsUsed : Nat := 0
def theMethod : MethodId := ⟨1, 3⟩
def args0 : Array Value := #[.int 5, .int 6, .int 7, .int 8, .int 9, .int 10]
def aboutOver (below : List Frame) : State where
  vm := { classes := classes, interned := interned.toArray }
  heap := heap
  slotsUsed := slotsUsed
  threads := #[{ frames := .invoking theMethod args0 :: below }]
def below0 : List Frame := [.native { method := ⟨0, 0⟩, args := #[] }]
def about1 : State := aboutOver below0
def p0 : Program := .bare "" "" ""
def e0 : Env := launch0.env 0 0 0
theorem w_frames : about1.frames = Frame.invoking theMethod args0 :: below0 := rfl
set_option maxRecDepth 65536 in
theorem w_args : argsFit about1.vm theMethod args0 = true := by decide +kernel
set_option maxRecDepth 65536 in
theorem w_heap : heapFits about1 = true := by decide +kernel
set_option maxRecDepth 65536 in
theorem w_runnable : about1.curStatus? = some .runnable := by decide +kernel
set_option maxRecDepth 65536 in
theorem w_alone : about1.alone = true := by decide +kernel
set_option maxRecDepth 65536 in
theorem w_named : about1.methodNamed? x = some theMethod := by decide +kernel
set_option maxRecDepth 65536 in
theorem w_hears : about1.hears theMethod below0 = true := by decide +kernel
set_option maxRecDepth 65536 in
theorem w_ripe : about1.ripe theMethod args0 below0 = true := by decide +kernel
theorem w_running : about1.status = .running := rfl
set_option maxRecDepth 65536 in
theorem w_room : about1.hasRoom e0.platform room_1 = true :=
  launch0.hasRoom_least _ room_1 (by decide +kernel) (by decide +kernel) (by decide +kernel) (by decide +kernel) (by decide +kernel) (by decide +kernel)
theorem allAtoms_all (ts : List Jvm.Cond) (a : Array Jvm.Value) (st : Jvm.State) : (allAtoms ts).before a st = ts.all (fun c => c.before a st) := by
  induction ts with
  | nil => rfl
  | cons c t ih =>
    show (Jvm.Cond.and c (allAtoms t)).before a st = _
    rw [Jvm.Cond.before_and, ih, List.all_cons]
def words1 : List Jvm.Cond := Jvm.Cond.code x code maxLocals ret :: tables_1
/-- a 'code' word, met by the world's own term for the bytes: nothing is compared byte by byte -/
theorem code_word {y : MethodName} {bytes : ByteArray} {mx : Nat} {rt : Option FieldType} {a : Array Value} {s : State} {m : MethodId} {meth : Method} {c : Code} (h1 : s.methodNamed? y = some m) (h2 : s.vm.method? m = some meth) (h3 : meth.code = some c) (h4 : c.code = bytes)
    (h5 : (c.maxLocals == mx && c.exceptionTable.isEmpty && decide (c.maxStack ≤ mostOperands) && decide (meth.sig.returnType = rt) && !meth.locks && decide (parseMethodDescriptor y.desc = some meth.sig)) = true) : (Jvm.Cond.code y bytes mx rt).before a s = true := by
  simp only [Bool.and_eq_true, beq_iff_eq, Bool.not_eq_true', decide_eq_true_eq] at h5
  obtain ⟨⟨⟨⟨⟨g1, g2⟩, g3⟩, g4⟩, g5⟩, g6⟩ := h5
  simp [Cond.before, Cond.holds, Cond.value, h1, h2, h3, h4, g1, g2, g3, g4, g5, g6]
def isCode : Jvm.Cond → Bool
  | .code _ _ _ _ => true
  | _ => false
theorem all_split {L : List Jvm.Cond} {P : Jvm.Cond → Bool} (h1 : L.all (fun c => isCode c || P c) = true) (h2 : ∀ c ∈ L.filter isCode, P c = true) : L.all P = true := by
  refine List.all_eq_true.mpr fun c hc => ?_
  have h := List.all_eq_true.mp h1 c hc
  rcases Bool.eq_false_or_eq_true (isCode c) with hi | hi
  · exact h2 c (List.mem_filter.mpr ⟨hc, hi⟩)
  · simpa [hi] using h
set_option maxRecDepth 65536 in
theorem w_c0 : (Jvm.Cond.code x code maxLocals ret).before args0 about1 = true := code_word (m := ⟨1, 3⟩) (meth := k1m3) (c := k1c3) (by decide +kernel) rfl rfl rfl (by decide +kernel)
set_option maxRecDepth 65536 in
theorem w_c1 : (Jvm.Cond.code ({ cls := "com/example/ruangwaktu/ruangwaktu/exam/EnrolmentsAddPinLaw", name := "make", desc := "(III)[I" } : Jvm.MethodName) method_2_code (4 : Nat) (Option.some (Jvm.ClassFile.FieldType.array Jvm.ClassFile.FieldType.int))).before args0 about1 = true := code_word (m := ⟨1, 1⟩) (meth := k1m1) (c := k1c1) (by decide +kernel) rfl rfl rfl (by decide +kernel)
set_option maxRecDepth 65536 in
theorem w_c2 : (Jvm.Cond.code ({ cls := "com/example/ruangwaktu/ruangwaktu/exam/Enrolments", name := "<init>", desc := "(II)V" } : Jvm.MethodName) prog_17_method_1_code (3 : Nat) (Option.none : Option Jvm.ClassFile.FieldType)).before args0 about1 = true := code_word (m := ⟨2, 0⟩) (meth := k2m0) (c := k2c0) (by decide +kernel) rfl rfl rfl (by decide +kernel)
set_option maxRecDepth 65536 in
theorem w_c3 : (Jvm.Cond.code ({ cls := "java/lang/Object", name := "<init>", desc := "()V" } : Jvm.MethodName) object_method_1_code (1 : Nat) (Option.none : Option Jvm.ClassFile.FieldType)).before args0 about1 = true := code_word (m := ⟨0, 0⟩) (meth := k0m0) (c := k0c0) (by decide +kernel) rfl rfl rfl (by decide +kernel)
set_option maxRecDepth 65536 in
theorem w_c4 : (Jvm.Cond.code ({ cls := "com/example/ruangwaktu/ruangwaktu/exam/Enrolments", name := "add", desc := "([I)V" } : Jvm.MethodName) prog_17_method_2_code (3 : Nat) (Option.none : Option Jvm.ClassFile.FieldType)).before args0 about1 = true := code_word (m := ⟨2, 1⟩) (meth := k2m1) (c := k2c1) (by decide +kernel) rfl rfl rfl (by decide +kernel)
set_option maxRecDepth 65536 in
theorem w_c5 : (Jvm.Cond.code ({ cls := "com/example/ruangwaktu/ruangwaktu/exam/Enrolments", name := "students", desc := "()I" } : Jvm.MethodName) prog_17_method_3_code (1 : Nat) (Option.some Jvm.ClassFile.FieldType.int)).before args0 about1 = true := code_word (m := ⟨2, 2⟩) (meth := k2m2) (c := k2c2) (by decide +kernel) rfl rfl rfl (by decide +kernel)
set_option maxRecDepth 65536 in
theorem w_c6 : (Jvm.Cond.code ({ cls := "com/example/ruangwaktu/ruangwaktu/exam/Enrolments", name := "total", desc := "()I" } : Jvm.MethodName) prog_17_method_4_code (1 : Nat) (Option.some Jvm.ClassFile.FieldType.int)).before args0 about1 = true := code_word (m := ⟨2, 3⟩) (meth := k2m3) (c := k2c3) (by decide +kernel) rfl rfl rfl (by decide +kernel)
set_option maxRecDepth 65536 in
theorem w_c7 : (Jvm.Cond.code ({ cls := "com/example/ruangwaktu/ruangwaktu/exam/Enrolments", name := "examsOf", desc := "(I)[I" } : Jvm.MethodName) prog_17_method_5_code (2 : Nat) (Option.some (Jvm.ClassFile.FieldType.array Jvm.ClassFile.FieldType.int))).before args0 about1 = true := code_word (m := ⟨2, 4⟩) (meth := k2m4) (c := k2c4) (by decide +kernel) rfl rfl rfl (by decide +kernel)
set_option maxRecDepth 65536 in
theorem w_c8 : (Jvm.Cond.code ({ cls := "java/util/Arrays", name := "copyOfRange", desc := "([III)[I" } : Jvm.MethodName) jdk_65_method_136_code (3 : Nat) (Option.some (Jvm.ClassFile.FieldType.array Jvm.ClassFile.FieldType.int))).before args0 about1 = true := code_word (m := ⟨4, 2⟩) (meth := k4m2) (c := k4c2) (by decide +kernel) rfl rfl rfl (by decide +kernel)
set_option maxRecDepth 65536 in
theorem w_c9 : (Jvm.Cond.code ({ cls := "com/example/ruangwaktu/ruangwaktu/exam/EnrolmentsAddPinLaw", name := "same", desc := "([IIII)Z" } : Jvm.MethodName) method_3_code (4 : Nat) (Option.some Jvm.ClassFile.FieldType.boolean)).before args0 about1 = true := code_word (m := ⟨1, 2⟩) (meth := k1m2) (c := k1c2) (by decide +kernel) rfl rfl rfl (by decide +kernel)
set_option maxRecDepth 65536 in
theorem w_c10 : (Jvm.Cond.code ({ cls := "java/util/Arrays", name := "copyOfRangeInt", desc := "([III)[I" } : Jvm.MethodName) jdk_65_method_137_code (5 : Nat) (Option.some (Jvm.ClassFile.FieldType.array Jvm.ClassFile.FieldType.int))).before args0 about1 = true := code_word (m := ⟨4, 3⟩) (meth := k4m3) (c := k4c3) (by decide +kernel) rfl rfl rfl (by decide +kernel)
set_option maxRecDepth 65536 in
theorem w_c11 : (Jvm.Cond.code ({ cls := "java/util/Arrays", name := "checkLength", desc := "(II)V" } : Jvm.MethodName) jdk_65_method_131_code (2 : Nat) (Option.none : Option Jvm.ClassFile.FieldType)).before args0 about1 = true := code_word (m := ⟨4, 1⟩) (meth := k4m1) (c := k4c1) (by decide +kernel) rfl rfl rfl (by decide +kernel)
set_option maxRecDepth 65536 in
theorem w_c12 : (Jvm.Cond.code ({ cls := "java/lang/Math", name := "min", desc := "(II)I" } : Jvm.MethodName) jdk_29_method_69_code (2 : Nat) (Option.some Jvm.ClassFile.FieldType.int)).before args0 about1 = true := code_word (m := ⟨6, 1⟩) (meth := k6m1) (c := k6c1) (by decide +kernel) rfl rfl rfl (by decide +kernel)
def codes1 : List Jvm.Cond := [Jvm.Cond.code x code maxLocals ret, Jvm.Cond.code ({ cls := "com/example/ruangwaktu/ruangwaktu/exam/EnrolmentsAddPinLaw", name := "make", desc := "(III)[I" } : Jvm.MethodName) method_2_code (4 : Nat) (Option.some (Jvm.ClassFile.FieldType.array Jvm.ClassFile.FieldType.int)), Jvm.Cond.code ({ cls := "com/example/ruangwaktu/ruangwaktu/exam/Enrolments", name := "<init>", desc := "(II)V" } : Jvm.MethodName) prog_17_method_1_code (3 : Nat) (Option.none : Option Jvm.ClassFile.FieldType), Jvm.Cond.code ({ cls := "java/lang/Object", name := "<init>", desc := "()V" } : Jvm.MethodName) object_method_1_code (1 : Nat) (Option.none : Option Jvm.ClassFile.FieldType), Jvm.Cond.code ({ cls := "com/example/ruangwaktu/ruangwaktu/exam/Enrolments", name := "add", desc := "([I)V" } : Jvm.MethodName) prog_17_method_2_code (3 : Nat) (Option.none : Option Jvm.ClassFile.FieldType), Jvm.Cond.code ({ cls := "com/example/ruangwaktu/ruangwaktu/exam/Enrolments", name := "students", desc := "()I" } : Jvm.MethodName) prog_17_method_3_code (1 : Nat) (Option.some Jvm.ClassFile.FieldType.int), Jvm.Cond.code ({ cls := "com/example/ruangwaktu/ruangwaktu/exam/Enrolments", name := "total", desc := "()I" } : Jvm.MethodName) prog_17_method_4_code (1 : Nat) (Option.some Jvm.ClassFile.FieldType.int), Jvm.Cond.code ({ cls := "com/example/ruangwaktu/ruangwaktu/exam/Enrolments", name := "examsOf", desc := "(I)[I" } : Jvm.MethodName) prog_17_method_5_code (2 : Nat) (Option.some (Jvm.ClassFile.FieldType.array Jvm.ClassFile.FieldType.int)), Jvm.Cond.code ({ cls := "java/util/Arrays", name := "copyOfRange", desc := "([III)[I" } : Jvm.MethodName) jdk_65_method_136_code (3 : Nat) (Option.some (Jvm.ClassFile.FieldType.array Jvm.ClassFile.FieldType.int)), Jvm.Cond.code ({ cls := "com/example/ruangwaktu/ruangwaktu/exam/EnrolmentsAddPinLaw", name := "same", desc := "([IIII)Z" } : Jvm.MethodName) method_3_code (4 : Nat) (Option.some Jvm.ClassFile.FieldType.boolean), Jvm.Cond.code ({ cls := "java/util/Arrays", name := "copyOfRangeInt", desc := "([III)[I" } : Jvm.MethodName) jdk_65_method_137_code (5 : Nat) (Option.some (Jvm.ClassFile.FieldType.array Jvm.ClassFile.FieldType.int)), Jvm.Cond.code ({ cls := "java/util/Arrays", name := "checkLength", desc := "(II)V" } : Jvm.MethodName) jdk_65_method_131_code (2 : Nat) (Option.none : Option Jvm.ClassFile.FieldType), Jvm.Cond.code ({ cls := "java/lang/Math", name := "min", desc := "(II)I" } : Jvm.MethodName) jdk_29_method_69_code (2 : Nat) (Option.some Jvm.ClassFile.FieldType.int)]
set_option maxRecDepth 65536 in
theorem codes_eq : words1.filter isCode = codes1 := rfl
theorem w_codes : ∀ c ∈ words1.filter isCode, c.before args0 about1 = true := by
  rw [codes_eq]
  intro c hc
  simp only [codes1, List.mem_cons, List.not_mem_nil, or_false] at hc
  rcases hc with rfl | rfl | rfl | rfl | rfl | rfl | rfl | rfl | rfl | rfl | rfl | rfl | rfl
  · exact w_c0
  · exact w_c1
  · exact w_c2
  · exact w_c3
  · exact w_c4
  · exact w_c5
  · exact w_c6
  · exact w_c7
  · exact w_c8
  · exact w_c9
  · exact w_c10
  · exact w_c11
  · exact w_c12
set_option maxRecDepth 65536 in
theorem w_t1 : (words1.take 24).all (fun c => isCode c || c.before args0 about1) = true := by decide +kernel
set_option maxRecDepth 65536 in
theorem w_t2 : ((words1.drop 24).take 24).all (fun c => isCode c || c.before args0 about1) = true := by decide +kernel
set_option maxRecDepth 65536 in
theorem w_t3 : ((words1.drop 24).drop 24).all (fun c => isCode c || c.before args0 about1) = true := by decide +kernel
theorem w_tables : (allAtoms (Jvm.Cond.code x code maxLocals ret :: tables_1)).before args0 about1 = true := by
  rw [allAtoms_all]
  show words1.all (fun c => c.before args0 about1) = true
  refine all_split ?_ w_codes
  rw [← List.take_append_drop 24 words1, List.all_append, w_t1, ← List.take_append_drop 24 (words1.drop 24), List.all_append, w_t2, w_t3]
  rfl
set_option maxRecDepth 65536 in
theorem w_case : (Jvm.Cond.and given_1 narrow_1).before args0 about1 = true := by decide +kernel
theorem w_applies : (headSpec (Jvm.Cond.code x code maxLocals ret :: tables_1) room_1).applies x e0.platform about1 = true :=
  (Spec.applies_iff w_frames).mpr ⟨w_running, w_runnable, w_alone, w_named, w_hears, w_ripe, w_room, w_tables⟩
theorem atStart : AtStart classFile x code maxLocals ret World_1 tables_1 room_1 Calls_1 rest_1 Pre_1 launch0 p0 e0 about1 theMethod args0 below0 :=
  ⟨lists_1, trivial, launch0.admits_env _ _ _, launch0.least_env, fairChoices_fair.cas, fairChoices_fair.clock, w_frames, w_args, w_heap, w_applies, trivial, trivial, w_case⟩
end start1
theorem witness_1 : WitnessClaimed_1 := ⟨start1.p0, start1.e0, start1.about1, start1.theMethod, start1.args0, start1.below0, start1.atStart⟩
end Jvm.Pilot.@@N@@
