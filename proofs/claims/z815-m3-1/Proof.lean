import JvmDerived
import JvmDerived.Pilot.@@N@@Statement
import JvmDerived.Pilot.@@N@@Code
set_option linter.unusedVariables false
set_option linter.unusedSimpArgs false
namespace Jvm.RoadKit
open Sem ClassFile Op Lib Jvm.Stand Jvm.Free Jvm.LawKit
section New
variable {p : Program} {l : Launch} {e : Env} {R : Room} {s : State} {m : MethodId} {args : Array Value} {below : List Frame} {meth : Method} {c : Code} {T : State} {locs : List Loc} {cells slots : Nat}
theorem retI (X : Stand p l e R s m args below meth c T locs cells slots) (hx : p.tables.exec = Jvm.exec) {pc : Nat} {Ls : Array Slot} {z : Int32} {rest : List Value} (hret : meth.sig.returnType = some .int) (hd : decode c.code pc = .ok (.ireturn, 1)) {fs : List Frame}
    (hl : ∀ (f : JFrame) (acts : List Action), f.method = m → f.locked = none → f.entered = [] → (doReturn e (T.setTop f) acts (some (.int z))).1 = T.setFrames fs) : Steps p.tables e below (T.setTop (mkF m pc Ls (.int z :: rest))) (T.setFrames fs) := by
  have hm' : T.vm.method? m = some meth := X.method'
  have hn : narrow .int (.int z) = .int z := rfl
  show Steps p.tables e below (T.setTop { method := m, pc := pc, locals := Ls, stack := _ :: rest, locked := none }) _
  jvm_step X.here [X.here.top, hx, hd, hm', hret, hn]
  first | (intro acts; rw [hl _ acts rfl rfl rfl]) | rw [hl _ _ rfl rfl rfl]
  exact Steps.refl _
end New
end Jvm.RoadKit
@@BLOCK:NumsL.lean.txt@@
namespace Jvm.Pilot.@@N@@
open Jvm Jvm.ClassFile Sem Op Lib Jvm.Free Jvm.Stand Jvm.LawKit Jvm.RoadKit Bundle Jvm.Pilot.@@N@@.Jvm.D
def own_End (p : Program) (e : Env) (below : List Frame) (P : Outcome → State → Prop) (S : State) : Prop :=
  ∃ s₂ o, Steps p.tables e below S s₂ ∧ s₂.status = .running ∧ Ended s₂ below o ∧ P o s₂
abbrev own_Met (l : Launch) (Z : State) (y : MethodName) (bytes : ByteArray) (maxL : Nat) (rt : Option FieldType) (ws : List Jvm.Cond) (rm : Room) (as' : Array Value) (h0 : Heap) (Q : Option Value → Heap → List Loc → Prop) : Prop :=
  MetFree l y (head1 (Jvm.Cond.code y bytes maxL rt :: ws) rm) (fun a U => a = as' ∧ Z.Warmed39 U.vm ∧ U.heap = h0) (fun _ _ _ _ _ => True) (fun _ U o U' => ∃ v L, o = .returned v ∧ Q v U'.heap L ∧ FrameEnd U o U' L rm.cells rm.slots)
def own_Ok (Q : Option Value → Heap → List Loc → Prop) (s : State) (kc ks : Nat) (P : Outcome → State → Prop) : Prop := ∀ v U L, Q v U.heap L → FrameEnd s (.returned v) U L kc ks → P (.returned v) U
section Own
variable {p : Program} {l : Launch} {e : Env} {R : Room} {s : State} {m : MethodId} {args : Array Value} {below : List Frame} {meth : Method} {c : Code} {T : State} {locs : List Loc} {cells slots : Nat} {Z : State} {a0 : Array Value} {h : Heap} {P : Outcome → State → Prop}
theorem own_st {S S' : State} (q : ∀ t, Steps p.tables e below S' t → Steps p.tables e below S t) (k : own_End p e below P S') : own_End p e below P S := by
  obtain ⟨a, b, c, d⟩ := k
  exact ⟨a, b, q _ c, d⟩
theorem own_tr {S S' : State} (q : Steps p.tables e below S S') (k : own_End p e below P S') : own_End p e below P S := own_st (fun _ r => q.trans r) k
theorem own_enter {y : MethodName} {bytes : ByteArray} {maxL : Nat} {rt : Option FieldType} {ws : List Jvm.Cond} {rm : Room} {as' : Array Value} {h0 : Heap} {Q : Option Value → Heap → List Loc → Prop} (hpl : plainFor y = true)
    (body : ∀ (p : Program) (e : Env) (s : State) (m : MethodId) (below : List Frame) (meth : Method) (c : Code) (s₁ : State) (P : Outcome → State → Prop), p.tables.exec = Jvm.exec → c.code = bytes → c.maxLocals = maxL → meth.sig.returnType = rt → meth.locks = false → s.vm.findClass y.cls = some m.cls → meth.name = y.name → Z.Warmed39 s.vm →
      Stand p l e rm s m as' below meth c s₁ [] 0 0 → s₁.heap = h0 → own_Ok Q s rm.cells rm.slots P → own_End p e below P (s₁.setTop (entryFrame m as' maxL))) :
    own_Met l Z y bytes maxL rt ws rm as' h0 Q := by
  refine MetFree.of_bodySF hpl hisR ?_
  intro p e s m args below meth c s₁ Bd hml0 hP hK
  obtain ⟨rfl, hZ, hh⟩ := hP
  exact body p e s m below meth c s₁ _ Bd.exec Bd.bytes hml0 Bd.returns Bd.notSynchronized (findClass_of_methodNamed Bd.named) (name_of_methodNamed Bd.named Bd.method).1 hZ (Stand.of_body Bd) (by rw [← hh, Bd.state]; rfl) (fun v U L q f => ⟨v, L, rfl, q, f⟩)
theorem own_cast {g g' : JFrame} (q : g = g') (k : own_End p e below P (T.setTop g')) : own_End p e below P (T.setTop g) := q ▸ k
theorem own_retI (X : Stand p l e R s m args below meth c T locs cells slots) (hx : p.tables.exec = Jvm.exec) (hlk : meth.locks = false) {kc ks : Nat} {Q : Option Value → Heap → List Loc → Prop} (hP : own_Ok Q s kc ks P)
    {pc : Nat} {Ls : Array Slot} {z : Int32} {rest : List Value} (hret : meth.sig.returnType = some .int) (hd : decode c.code pc = .ok (.ireturn, 1)) (h1 : cells ≤ kc) (h2 : slots ≤ ks) (hq : Q (some (.int z)) T.heap locs) : own_End p e below P (T.setTop (mkF m pc Ls (.int z :: rest))) := by
  obtain ⟨fs, hr, hrun, hended, hW, hsame⟩ := X.leave (v := some (.int z)) (fun h => by rw [hret] at h; cases h) hlk
  exact ⟨_, _, retI X hx hret hd hr, hrun, hended, hP _ _ locs hq ⟨⟨_, rfl⟩, hW, hsame.mono h1 h2⟩⟩
theorem own_retN (X : Stand p l e R s m args below meth c T locs cells slots) (hx : p.tables.exec = Jvm.exec) (hlk : meth.locks = false) {kc ks : Nat} {Q : Option Value → Heap → List Loc → Prop} (hP : own_Ok Q s kc ks P)
    {pc : Nat} {Ls : Array Slot} {z : Int32} {t : FieldType} {rest : List Value} (ht : t = .boolean ∨ t = .byte ∨ t = .char ∨ t = .short) (hret : meth.sig.returnType = some t) (hd : decode c.code pc = .ok (.ireturn, 1)) (h1 : cells ≤ kc) (h2 : slots ≤ ks) (hq : Q (some (.int (nar t z))) T.heap locs) : own_End p e below P (T.setTop (mkF m pc Ls (.int z :: rest))) := by
  obtain ⟨fs, hr, hrun, hended, hW, hsame⟩ := X.leave (v := some (.int (nar t z))) (fun h => by rw [hret] at h; cases h) hlk
  exact ⟨_, _, retN X hx hret ht hd hr, hrun, hended, hP _ _ locs hq ⟨⟨_, rfl⟩, hW, hsame.mono h1 h2⟩⟩
theorem own_retL (X : Stand p l e R s m args below meth c T locs cells slots) (hx : p.tables.exec = Jvm.exec) (hlk : meth.locks = false) {kc ks : Nat} {Q : Option Value → Heap → List Loc → Prop} (hP : own_Ok Q s kc ks P)
    {pc : Nat} {Ls : Array Slot} {z : Int64} {rest : List Value} (hret : meth.sig.returnType = some .long) (hd : decode c.code pc = .ok (.lreturn, 1)) (h1 : cells ≤ kc) (h2 : slots ≤ ks) (hq : Q (some (.long z)) T.heap locs) : own_End p e below P (T.setTop (mkF m pc Ls (.long z :: rest))) := by
  obtain ⟨fs, hr, hrun, hended, hW, hsame⟩ := X.leave (v := some (.long z)) (fun h => by rw [hret] at h; cases h) hlk
  exact ⟨_, _, retOut X hx hret rfl (Or.inr (Or.inl ⟨rfl, rfl, z, rfl⟩)) hd hr, hrun, hended, hP _ _ locs hq ⟨⟨_, rfl⟩, hW, hsame.mono h1 h2⟩⟩
theorem own_retR (X : Stand p l e R s m args below meth c T locs cells slots) (hx : p.tables.exec = Jvm.exec) (hlk : meth.locks = false) {kc ks : Nat} {Q : Option Value → Heap → List Loc → Prop} (hP : own_Ok Q s kc ks P)
    {pc : Nat} {Ls : Array Slot} {w : Value} {t : FieldType} {rest : List Value} (hw : w.isRef = true) (ht : t.isReference = true) (hret : meth.sig.returnType = some t) (hd : decode c.code pc = .ok (.areturn, 1)) (h1 : cells ≤ kc) (h2 : slots ≤ ks) (hq : Q (some w) T.heap locs) : own_End p e below P (T.setTop (mkF m pc Ls (w :: rest))) := by
  obtain ⟨fs, hr, hrun, hended, hW, hsame⟩ := X.leave (v := some w) (fun h => by rw [hret] at h; cases h) hlk
  have hn : narrow t w = w := by rcases ref_cases hw with rfl | ⟨a, rfl⟩ <;> cases t <;> rfl
  exact ⟨_, _, retOut X hx hret hn (Or.inr (Or.inr (Or.inr (Or.inr ⟨rfl, ht, hw⟩)))) hd hr, hrun, hended, hP _ _ locs hq ⟨⟨_, rfl⟩, hW, hsame.mono h1 h2⟩⟩
theorem own_retV (X : Stand p l e R s m args below meth c T locs cells slots) (hx : p.tables.exec = Jvm.exec) (hlk : meth.locks = false) {kc ks : Nat} {Q : Option Value → Heap → List Loc → Prop} (hP : own_Ok Q s kc ks P)
    {pc : Nat} {Ls : Array Slot} (hret : meth.sig.returnType = none) (hd : decode c.code pc = .ok (.return_, 1)) (h1 : cells ≤ kc) (h2 : slots ≤ ks) (hq : Q none T.heap locs) : own_End p e below P (T.setTop (mkF m pc Ls [])) := by
  obtain ⟨fs, hr, hrun, hended, hW, hsame⟩ := X.leave (v := none) (fun _ => rfl) hlk
  exact ⟨_, _, X.returnOut hx hret hd hr, hrun, hended, hP _ _ locs hq ⟨⟨_, rfl⟩, hW, hsame.mono h1 h2⟩⟩
theorem own_callS (X : Stand p l e R s m args below meth c T locs cells slots) (hx : p.tables.exec = Jvm.exec) (hZ : Z.Warmed39 s.vm) {own : String} {index : Nat} {y : MethodName} {bytes : ByteArray} {maxL : Nat} {rt : Option FieldType} {rm : Room} {as' : Array Value} {Q : Option Value → Heap → List Loc → Prop}
    (hown : s.vm.findClass own = some m.cls) (w1 : (Jvm.Cond.methodLink own index y).before a0 Z = true) (w2 : (Jvm.Cond.static y).before a0 Z = true) (w3 : (Jvm.Cond.initialized y.cls).before a0 Z = true) (w4 : (Jvm.Cond.code y bytes maxL rt).before a0 Z = true) (hy : y.cls ≠ "java/lang/invoke/MethodHandle" ∧ y.cls ≠ "java/lang/invoke/VarHandle")
    (hM : own_Met l Z y bytes maxL rt [] rm as' h Q) (W : Nat) (hf : rm.frames + 1 ≤ R.frames) (hl : W + (maxL + 11) + rm.locals ≤ R.locals) (eT : T.heap = h) (hc : cells + rm.cells ≤ R.cells) (hs : slots + rm.slots ≤ R.slots)
    {g : JFrame} (hg : g.method = m) (hsize : g.locals.size = c.maxLocals) {argsL rest : List Value} (ha : argsL.toArray = as') (hlen : ∀ sig, parseMethodDescriptor y.desc = some sig → argsL.length = sig.parameters.length) (hstack : g.stack = argsL.reverse ++ rest) (hW : 2 * g.monitorRoom + (rest.map fun v => v.category).sum ≤ W) (hdg : decode c.code g.pc = .ok (.invokestatic index, 3))
    (k : ∀ v T' L, Stand p l e R s m args below meth c T' (locs ++ L) (cells + rm.cells) (slots + rm.slots) → Q v T'.heap L → own_End p e below P (T'.setTop { g with pc := g.pc + 3, stack := v.toList ++ rest })) : own_End p e below P (T.setTop g) := by
  obtain ⟨v, vm₁, ⟨T', L', k', n'⟩, -, X', ⟨L, hQ, h1, h2, h3⟩, st⟩ := Jvm.LawKit.callS X hx hown (mvT hZ w1) (mvT hZ w2) (mvT hZ w3) (mvT hZ w4) hy (backOf (W := W) hM hZ w4 w3 hf hl) hg hsize hlen hstack hW hdg (fun _ _ => ⟨ha, eT, hc, hs⟩)
  dsimp only [Pt.U, Pt.locs, Pt.cells, Pt.slots] at X' h1 h2 h3 st hQ
  subst h1 h2 h3
  exact own_st st (k v T' L X' hQ)
theorem own_callI (X : Stand p l e R s m args below meth c T locs cells slots) (hx : p.tables.exec = Jvm.exec) (hZ : Z.Warmed39 s.vm) {own : String} {index : Nat} {y : MethodName} {bytes : ByteArray} {maxL : Nat} {rm : Room} {as' : Array Value} {Q : Option Value → Heap → List Loc → Prop}
    (hy1 : y.name = "<init>") (hown : s.vm.findClass own = some m.cls) (w1 : (Jvm.Cond.methodLink own index y).before a0 Z = true) (w2 : (Jvm.Cond.instanceMethod y).before a0 Z = true) (w3 : (Jvm.Cond.initialized y.cls).before a0 Z = true) (w4 : (Jvm.Cond.code y bytes maxL none).before a0 Z = true) (hy : y.cls ≠ "java/lang/invoke/MethodHandle" ∧ y.cls ≠ "java/lang/invoke/VarHandle")
    (hM : own_Met l Z y bytes maxL none [] rm as' h Q) (W : Nat) (hf : rm.frames + 1 ≤ R.frames) (hl : W + (maxL + 11) + rm.locals ≤ R.locals) (eT : T.heap = h) (hc : cells + rm.cells ≤ R.cells) (hs : slots + rm.slots ≤ R.slots)
    {g : JFrame} (hg : g.method = m) (hsize : g.locals.size = c.maxLocals) {a : Addr} {argsL rest : List Value} (ha : (Value.ref a :: argsL).toArray = as') (hlen : ∀ sig, parseMethodDescriptor y.desc = some sig → argsL.length = sig.parameters.length) (hstack : g.stack = argsL.reverse ++ .ref a :: rest) (hW : 2 * g.monitorRoom + (rest.map fun v => v.category).sum ≤ W) (hdg : decode c.code g.pc = .ok (.invokespecial index, 3))
    (k : ∀ v T' L, Stand p l e R s m args below meth c T' (locs ++ L) (cells + rm.cells) (slots + rm.slots) → Q v T'.heap L → own_End p e below P (T'.setTop { g with pc := g.pc + 3, stack := v.toList ++ rest })) : own_End p e below P (T.setTop g) := by
  obtain ⟨v, vm₁, ⟨T', L', k', n'⟩, -, X', ⟨L, hQ, h1, h2, h3⟩, st⟩ := X.specialBack hx hy1 hown (mvT hZ w1) (mvT hZ w2) (mvT hZ w4) hy (backOf (W := W) hM hZ w4 w3 hf hl) hg hsize (Steps.refl _) hlen hstack hW hdg (fun _ _ => ⟨ha, eT, hc, hs⟩)
  dsimp only [Pt.U, Pt.locs, Pt.cells, Pt.slots] at X' h1 h2 h3 st hQ
  subst h1 h2 h3
  exact own_tr st (k v T' L X' hQ)
theorem own_callV (X : Stand p l e R s m args below meth c T locs cells slots) (hx : p.tables.exec = Jvm.exec) (hZ : Z.Warmed39 s.vm) {own C : String} {index : Nat} {y z : MethodName} {bytes : ByteArray} {maxL : Nat} {rt : Option FieldType} {rm : Room} {as' : Array Value} {Q : Option Value → Heap → List Loc → Prop}
    (hown : s.vm.findClass own = some m.cls) (w1 : (Jvm.Cond.methodLink own index y).before a0 Z = true) (w2 : (Jvm.Cond.declares y).before a0 Z = true) (hnf : NotFace s y) (w5 : (Jvm.Cond.selects C y z).before a0 Z = true) (w6 : (Jvm.Cond.instanceMethod z).before a0 Z = true) (w3 : (Jvm.Cond.initialized z.cls).before a0 Z = true) (w4 : (Jvm.Cond.code z bytes maxL rt).before a0 Z = true) (hy : y.cls ≠ "java/lang/invoke/MethodHandle" ∧ y.cls ≠ "java/lang/invoke/VarHandle")
    {a : Addr} (E : Exa Z h a C) (hM : own_Met l Z z bytes maxL rt [] rm as' h Q) (W : Nat) (hf : rm.frames + 1 ≤ R.frames) (hl : W + (maxL + 11) + rm.locals ≤ R.locals) (eT : T.heap = h) (hc : cells + rm.cells ≤ R.cells) (hs : slots + rm.slots ≤ R.slots)
    {g : JFrame} (hg : g.method = m) (hsize : g.locals.size = c.maxLocals) {argsL rest : List Value} (ha : (Value.ref a :: argsL).toArray = as') (hlen : ∀ sig, parseMethodDescriptor y.desc = some sig → argsL.length = sig.parameters.length) (hstack : g.stack = argsL.reverse ++ .ref a :: rest) (hW : 2 * g.monitorRoom + (rest.map fun v => v.category).sum ≤ W) (hdg : decode c.code g.pc = .ok (.invokevirtual index, 3))
    (k : ∀ v T' L, Stand p l e R s m args below meth c T' (locs ++ L) (cells + rm.cells) (slots + rm.slots) → Q v T'.heap L → own_End p e below P (T'.setTop { g with pc := g.pc + 3, stack := v.toList ++ rest })) : own_End p e below P (T.setTop g) := by
  obtain ⟨cB, kB, q1, q2, q3⟩ := isOf hZ eT E
  obtain ⟨v, vm₁, ⟨T', L', k', n'⟩, -, X', ⟨L, hQ, h1, h2, h3⟩, st⟩ := X.virtualBack hx (y := y) (z := z) hown (mvT hZ w1) (mvT hZ w2) hnf (mvT hZ w5) (mvT hZ w6) hy (backOf (W := W) hM hZ w4 w3 hf hl) q1 q3 hg hsize (Steps.refl _) hlen hstack hW hdg (fun _ _ => ⟨ha, eT, hc, hs⟩)
  dsimp only [Pt.U, Pt.locs, Pt.cells, Pt.slots] at X' h1 h2 h3 st hQ
  subst h1 h2 h3
  exact own_tr st (k v T' L X' hQ)
theorem own_callU (X : Stand p l e R s m args below meth c T locs cells slots) (hx : p.tables.exec = Jvm.exec) (hZ : Z.Warmed39 s.vm) {own C owner : String} {index : Nat} {x y : MethodName} {bytes : ByteArray} {maxL : Nat} {rt : Option FieldType} {rm : Room} {as' : Array Value} {Q : Option Value → Heap → List Loc → Prop}
    (hown : s.vm.findClass own = some m.cls) (w1 : (Jvm.Cond.methodLink own index x).before a0 Z = true) (w2 : (Jvm.Cond.sameMethod x.cls owner x.name x.desc).before a0 Z = true) (w7 : (Jvm.Cond.declares ⟨owner, x.name, x.desc⟩).before a0 Z = true) (hy : owner ≠ "java/lang/invoke/MethodHandle" ∧ owner ≠ "java/lang/invoke/VarHandle") (w5 : (Jvm.Cond.selects C x y).before a0 Z = true) (w6 : (Jvm.Cond.instanceMethod y).before a0 Z = true) (w3 : (Jvm.Cond.initialized y.cls).before a0 Z = true) (w4 : (Jvm.Cond.code y bytes maxL rt).before a0 Z = true)
    {a : Addr} (E : Exa Z h a C) (hM : own_Met l Z y bytes maxL rt [] rm as' h Q) (W : Nat) (hf : rm.frames + 1 ≤ R.frames) (hl : W + (maxL + 11) + rm.locals ≤ R.locals) (eT : T.heap = h) (hc : cells + rm.cells ≤ R.cells) (hs : slots + rm.slots ≤ R.slots)
    {g : JFrame} (hg : g.method = m) (hsize : g.locals.size = c.maxLocals) {argsL rest : List Value} (ha : (Value.ref a :: argsL).toArray = as') (hlen : ∀ sig, parseMethodDescriptor x.desc = some sig → argsL.length = sig.parameters.length) (hstack : g.stack = argsL.reverse ++ .ref a :: rest) (hW : 2 * g.monitorRoom + (rest.map fun v => v.category).sum ≤ W) (hdg : decode c.code g.pc = .ok (.invokevirtual index, 3))
    (k : ∀ v T' L, Stand p l e R s m args below meth c T' (locs ++ L) (cells + rm.cells) (slots + rm.slots) → Q v T'.heap L → own_End p e below P (T'.setTop { g with pc := g.pc + 3, stack := v.toList ++ rest })) : own_End p e below P (T.setTop g) := by
  obtain ⟨cB, kB, q1, q2, q3⟩ := isOf hZ eT E
  obtain ⟨v, vm₁, ⟨T', L', k', n'⟩, -, X', ⟨L, hQ, h1, h2, h3⟩, st⟩ := X.virtualBackUp hx (x := x) (y := y) hown (mvT hZ w1) (mvT hZ w2) (mvT hZ w7) hy (mvT hZ w5) (mvT hZ w6) (backOf (W := W) hM hZ w4 w3 hf hl) q1 q3 hg hsize (Steps.refl _) hlen hstack hW hdg (fun _ _ => ⟨ha, eT, hc, hs⟩)
  dsimp only [Pt.U, Pt.locs, Pt.cells, Pt.slots] at X' h1 h2 h3 st hQ
  subst h1 h2 h3
  exact own_tr st (k v T' L X' hQ)
theorem own_tsw (X : Stand p l e R s m args below meth c T locs cells slots) (hx : p.tables.exec = Jvm.exec) {pc len pc' : Nat} {Ls : Array Slot} {rest : List Value} {dflt low high o : Int} {offs : Array Int} {i : Int32} (hd : decode c.code pc = .ok (.tableswitch dflt low high offs, len)) (hin : ¬ (i.toInt < low ∨ i.toInt > high)) (hoff : offs[(i.toInt - low).toNat]? = some o) (ho : 0 ≤ (pc : Int) + o) (hp : ((pc : Int) + o).toNat = pc')
    (k : own_End p e below P (T.setTop (mkF m pc' Ls rest))) : own_End p e below P (T.setTop (mkF m pc Ls (.int i :: rest))) :=
  own_st (fun _ r => XS.tswIn (g := mkF m pc Ls (.int i :: rest)) X.here hx rfl rfl hd rfl hin hoff ho hp r) k
theorem own_lt {x y : Int64} : lcmpW x y < 0 ↔ x < y := by rw [lcW]; exact lc_lt x y
theorem own_gt {x y : Int64} : 0 < lcmpW x y ↔ y < x := by rw [lcW]; exact lc_gt x y
theorem own_eq {x y : Int64} : lcmpW x y = 0 ↔ x = y := by rw [lcW]; exact lc_eq x y
theorem own_eqInt {first : State} {o : Option Outcome} {idx : List Nat} {t : Term} {k : Int32} (q : (Jvm.Cond.eq t (.int k)).value args first o s idx = some true) : t.eval args first o idx s = some (.int k) := by
  obtain ⟨x, y, e1, e2, k1, k2⟩ := cmp_v (Or.inl q)
  rw [Term.int_eval] at e2
  cases e2
  obtain ⟨z, rfl⟩ := k2
  rw [e1, gotT (Cond.eq_ints e1 (Term.int_eval k)) q]
end Own
theorem own_d1_0 : decode method_2_code 0 = .ok (.iload_n 0, 1) := by decide +kernel
theorem own_d1_1 : decode method_2_code 1 = .ok (.ifCond .ne 7, 3) := by decide +kernel
theorem own_d1_4 : decode method_2_code 4 = .ok (.getstatic 7, 3) := by decide +kernel
theorem own_d1_7 : decode method_2_code 7 = .ok (.areturn, 1) := by decide +kernel
theorem own_d1_8 : decode method_2_code 8 = .ok (.iload_n 0, 1) := by decide +kernel
theorem own_d1_9 : decode method_2_code 9 = .ok (.iconst 1, 1) := by decide +kernel
theorem own_d1_10 : decode method_2_code 10 = .ok (.if_icmp .ne 7, 3) := by decide +kernel
theorem own_d1_13 : decode method_2_code 13 = .ok (.getstatic 13, 3) := by decide +kernel
theorem own_d1_16 : decode method_2_code 16 = .ok (.areturn, 1) := by decide +kernel
theorem own_d1_17 : decode method_2_code 17 = .ok (.iload_n 0, 1) := by decide +kernel
theorem own_d1_18 : decode method_2_code 18 = .ok (.iconst 2, 1) := by decide +kernel
theorem own_d1_19 : decode method_2_code 19 = .ok (.if_icmp .ne 7, 3) := by decide +kernel
theorem own_d1_22 : decode method_2_code 22 = .ok (.getstatic 16, 3) := by decide +kernel
theorem own_d1_25 : decode method_2_code 25 = .ok (.areturn, 1) := by decide +kernel
theorem own_d1_26 : decode method_2_code 26 = .ok (.iload_n 0, 1) := by decide +kernel
theorem own_d1_27 : decode method_2_code 27 = .ok (.iconst 3, 1) := by decide +kernel
theorem own_d1_28 : decode method_2_code 28 = .ok (.if_icmp .ne 7, 3) := by decide +kernel
theorem own_d1_31 : decode method_2_code 31 = .ok (.getstatic 19, 3) := by decide +kernel
theorem own_d1_34 : decode method_2_code 34 = .ok (.areturn, 1) := by decide +kernel
theorem own_d1_35 : decode method_2_code 35 = .ok (.iload_n 0, 1) := by decide +kernel
theorem own_d1_36 : decode method_2_code 36 = .ok (.iconst 4, 1) := by decide +kernel
theorem own_d1_37 : decode method_2_code 37 = .ok (.if_icmp .ne 7, 3) := by decide +kernel
theorem own_d1_40 : decode method_2_code 40 = .ok (.getstatic 22, 3) := by decide +kernel
theorem own_d1_43 : decode method_2_code 43 = .ok (.areturn, 1) := by decide +kernel
theorem own_d1_44 : decode method_2_code 44 = .ok (.iload_n 0, 1) := by decide +kernel
theorem own_d1_45 : decode method_2_code 45 = .ok (.iconst 5, 1) := by decide +kernel
theorem own_d1_46 : decode method_2_code 46 = .ok (.if_icmp .ne 7, 3) := by decide +kernel
theorem own_d1_49 : decode method_2_code 49 = .ok (.getstatic 25, 3) := by decide +kernel
theorem own_d1_52 : decode method_2_code 52 = .ok (.areturn, 1) := by decide +kernel
theorem own_d1_53 : decode method_2_code 53 = .ok (.iload_n 0, 1) := by decide +kernel
theorem own_d1_54 : decode method_2_code 54 = .ok (.bipush 6, 2) := by decide +kernel
theorem own_d1_56 : decode method_2_code 56 = .ok (.if_icmp .ne 7, 3) := by decide +kernel
theorem own_d1_59 : decode method_2_code 59 = .ok (.getstatic 28, 3) := by decide +kernel
theorem own_d1_62 : decode method_2_code 62 = .ok (.areturn, 1) := by decide +kernel
theorem own_d1_63 : decode method_2_code 63 = .ok (.iload_n 0, 1) := by decide +kernel
theorem own_d1_64 : decode method_2_code 64 = .ok (.bipush 7, 2) := by decide +kernel
theorem own_d1_66 : decode method_2_code 66 = .ok (.if_icmp .ne 7, 3) := by decide +kernel
theorem own_d1_69 : decode method_2_code 69 = .ok (.getstatic 31, 3) := by decide +kernel
theorem own_d1_72 : decode method_2_code 72 = .ok (.areturn, 1) := by decide +kernel
theorem own_d1_73 : decode method_2_code 73 = .ok (.iload_n 0, 1) := by decide +kernel
theorem own_d1_74 : decode method_2_code 74 = .ok (.bipush 8, 2) := by decide +kernel
theorem own_d1_76 : decode method_2_code 76 = .ok (.if_icmp .ne 7, 3) := by decide +kernel
theorem own_d1_79 : decode method_2_code 79 = .ok (.getstatic 34, 3) := by decide +kernel
theorem own_d1_82 : decode method_2_code 82 = .ok (.areturn, 1) := by decide +kernel
theorem own_d1_83 : decode method_2_code 83 = .ok (.iload_n 0, 1) := by decide +kernel
theorem own_d1_84 : decode method_2_code 84 = .ok (.bipush 9, 2) := by decide +kernel
theorem own_d1_86 : decode method_2_code 86 = .ok (.if_icmp .ne 7, 3) := by decide +kernel
theorem own_d1_89 : decode method_2_code 89 = .ok (.getstatic 37, 3) := by decide +kernel
theorem own_d1_92 : decode method_2_code 92 = .ok (.areturn, 1) := by decide +kernel
theorem own_d1_93 : decode method_2_code 93 = .ok (.iload_n 0, 1) := by decide +kernel
theorem own_d1_94 : decode method_2_code 94 = .ok (.bipush 10, 2) := by decide +kernel
theorem own_d1_96 : decode method_2_code 96 = .ok (.if_icmp .ne 7, 3) := by decide +kernel
theorem own_d1_99 : decode method_2_code 99 = .ok (.getstatic 40, 3) := by decide +kernel
theorem own_d1_102 : decode method_2_code 102 = .ok (.areturn, 1) := by decide +kernel
theorem own_d1_103 : decode method_2_code 103 = .ok (.iload_n 0, 1) := by decide +kernel
theorem own_d1_104 : decode method_2_code 104 = .ok (.bipush 11, 2) := by decide +kernel
theorem own_d1_106 : decode method_2_code 106 = .ok (.if_icmp .ne 7, 3) := by decide +kernel
theorem own_d1_109 : decode method_2_code 109 = .ok (.getstatic 43, 3) := by decide +kernel
theorem own_d1_112 : decode method_2_code 112 = .ok (.areturn, 1) := by decide +kernel
theorem own_d1_113 : decode method_2_code 113 = .ok (.getstatic 46, 3) := by decide +kernel
theorem own_d1_116 : decode method_2_code 116 = .ok (.areturn, 1) := by decide +kernel
theorem own_ef1 (m : MethodId) (p0 : Int32) : entryFrame m #[(.int p0)] 1 = mkF m 0 #[.val (.int p0)] [] := by first | (simp [entryFrame, mkF, argsToLocals, Value.category]; done) | rfl
def own_f1 (p0 : Int32) (s_BinaryOperator_MULTIPLY : Addr) (s_BinaryOperator_DIVIDE : Addr) (s_BinaryOperator_REMAINDER : Addr) (s_BinaryOperator_ADD : Addr) (s_BinaryOperator_SUBTRACT : Addr) (s_BinaryOperator_LESS : Addr) (s_BinaryOperator_LESS_OR_EQUAL : Addr) (s_BinaryOperator_GREATER : Addr) (s_BinaryOperator_GREATER_OR_EQUAL : Addr) (s_BinaryOperator_EQUAL : Addr) (s_BinaryOperator_NOT_EQUAL : Addr) (s_BinaryOperator_AND : Addr) (s_BinaryOperator_OR : Addr) : Addr := (if p0 = (0 : Int32) then s_BinaryOperator_MULTIPLY else (if p0 = (1 : Int32) then s_BinaryOperator_DIVIDE else (if p0 = (2 : Int32) then s_BinaryOperator_REMAINDER else (if p0 = (3 : Int32) then s_BinaryOperator_ADD else (if p0 = (4 : Int32) then s_BinaryOperator_SUBTRACT else (if p0 = (5 : Int32) then s_BinaryOperator_LESS else (if p0 = (6 : Int32) then s_BinaryOperator_LESS_OR_EQUAL else (if p0 = (7 : Int32) then s_BinaryOperator_GREATER else (if p0 = (8 : Int32) then s_BinaryOperator_GREATER_OR_EQUAL else (if p0 = (9 : Int32) then s_BinaryOperator_EQUAL else (if p0 = (10 : Int32) then s_BinaryOperator_NOT_EQUAL else (if p0 = (11 : Int32) then s_BinaryOperator_AND else s_BinaryOperator_OR))))))))))))
theorem own_pn_com_example_interleaving_explorer_interleavingexplorer_lang_BinaryOperatorIsDecidedByPinLaw : plainName "com/example/interleaving_explorer/interleavingexplorer/lang/BinaryOperatorIsDecidedByPinLaw" = true := by first | (simp [plainName, overriddenIn]; done) | decide +kernel
set_option maxRecDepth 65536 in
set_option maxHeartbeats 40000000 in
theorem own_m1 (l : Launch) (Z : State) (a0 : Array Value) (hw : ∀ d ∈ tables_1, d.before a0 Z = true) (ws : List Jvm.Cond) (p0 : Int32) (s_BinaryOperator_MULTIPLY : Addr) (s_BinaryOperator_DIVIDE : Addr) (s_BinaryOperator_REMAINDER : Addr) (s_BinaryOperator_ADD : Addr) (s_BinaryOperator_SUBTRACT : Addr) (s_BinaryOperator_LESS : Addr) (s_BinaryOperator_LESS_OR_EQUAL : Addr) (s_BinaryOperator_GREATER : Addr) (s_BinaryOperator_GREATER_OR_EQUAL : Addr) (s_BinaryOperator_EQUAL : Addr) (s_BinaryOperator_NOT_EQUAL : Addr) (s_BinaryOperator_AND : Addr) (s_BinaryOperator_OR : Addr) (h0 : Heap) (n0 : Nat) (Z0 : n0 ≤ h0.size) (S_BinaryOperator_MULTIPLY : Sta Z h0 "com/example/interleaving_explorer/interleavingexplorer/lang/BinaryOperator" "MULTIPLY" "Lcom/example/interleaving_explorer/interleavingexplorer/lang/BinaryOperator;" (.ref s_BinaryOperator_MULTIPLY)) (S_BinaryOperator_DIVIDE : Sta Z h0 "com/example/interleaving_explorer/interleavingexplorer/lang/BinaryOperator" "DIVIDE" "Lcom/example/interleaving_explorer/interleavingexplorer/lang/BinaryOperator;" (.ref s_BinaryOperator_DIVIDE)) (S_BinaryOperator_REMAINDER : Sta Z h0 "com/example/interleaving_explorer/interleavingexplorer/lang/BinaryOperator" "REMAINDER" "Lcom/example/interleaving_explorer/interleavingexplorer/lang/BinaryOperator;" (.ref s_BinaryOperator_REMAINDER)) (S_BinaryOperator_ADD : Sta Z h0 "com/example/interleaving_explorer/interleavingexplorer/lang/BinaryOperator" "ADD" "Lcom/example/interleaving_explorer/interleavingexplorer/lang/BinaryOperator;" (.ref s_BinaryOperator_ADD)) (S_BinaryOperator_SUBTRACT : Sta Z h0 "com/example/interleaving_explorer/interleavingexplorer/lang/BinaryOperator" "SUBTRACT" "Lcom/example/interleaving_explorer/interleavingexplorer/lang/BinaryOperator;" (.ref s_BinaryOperator_SUBTRACT)) (S_BinaryOperator_LESS : Sta Z h0 "com/example/interleaving_explorer/interleavingexplorer/lang/BinaryOperator" "LESS" "Lcom/example/interleaving_explorer/interleavingexplorer/lang/BinaryOperator;" (.ref s_BinaryOperator_LESS)) (S_BinaryOperator_LESS_OR_EQUAL : Sta Z h0 "com/example/interleaving_explorer/interleavingexplorer/lang/BinaryOperator" "LESS_OR_EQUAL" "Lcom/example/interleaving_explorer/interleavingexplorer/lang/BinaryOperator;" (.ref s_BinaryOperator_LESS_OR_EQUAL)) (S_BinaryOperator_GREATER : Sta Z h0 "com/example/interleaving_explorer/interleavingexplorer/lang/BinaryOperator" "GREATER" "Lcom/example/interleaving_explorer/interleavingexplorer/lang/BinaryOperator;" (.ref s_BinaryOperator_GREATER)) (S_BinaryOperator_GREATER_OR_EQUAL : Sta Z h0 "com/example/interleaving_explorer/interleavingexplorer/lang/BinaryOperator" "GREATER_OR_EQUAL" "Lcom/example/interleaving_explorer/interleavingexplorer/lang/BinaryOperator;" (.ref s_BinaryOperator_GREATER_OR_EQUAL)) (S_BinaryOperator_EQUAL : Sta Z h0 "com/example/interleaving_explorer/interleavingexplorer/lang/BinaryOperator" "EQUAL" "Lcom/example/interleaving_explorer/interleavingexplorer/lang/BinaryOperator;" (.ref s_BinaryOperator_EQUAL)) (S_BinaryOperator_NOT_EQUAL : Sta Z h0 "com/example/interleaving_explorer/interleavingexplorer/lang/BinaryOperator" "NOT_EQUAL" "Lcom/example/interleaving_explorer/interleavingexplorer/lang/BinaryOperator;" (.ref s_BinaryOperator_NOT_EQUAL)) (S_BinaryOperator_AND : Sta Z h0 "com/example/interleaving_explorer/interleavingexplorer/lang/BinaryOperator" "AND" "Lcom/example/interleaving_explorer/interleavingexplorer/lang/BinaryOperator;" (.ref s_BinaryOperator_AND)) (S_BinaryOperator_OR : Sta Z h0 "com/example/interleaving_explorer/interleavingexplorer/lang/BinaryOperator" "OR" "Lcom/example/interleaving_explorer/interleavingexplorer/lang/BinaryOperator;" (.ref s_BinaryOperator_OR)) :
    own_Met l Z (⟨"com/example/interleaving_explorer/interleavingexplorer/lang/BinaryOperatorIsDecidedByPinLaw", "pick", "(I)Lcom/example/interleaving_explorer/interleavingexplorer/lang/BinaryOperator;"⟩ : MethodName) method_2_code 1 (some (.object "com/example/interleaving_explorer/interleavingexplorer/lang/BinaryOperator")) ws ({ frames := 0, cells := 0, slots := 0, locals := 0 } : Room) #[(.int p0)] h0 (fun (v : Option Value) (h : Heap) (L : List Loc) => v = some (.ref (own_f1 p0 s_BinaryOperator_MULTIPLY s_BinaryOperator_DIVIDE s_BinaryOperator_REMAINDER s_BinaryOperator_ADD s_BinaryOperator_SUBTRACT s_BinaryOperator_LESS s_BinaryOperator_LESS_OR_EQUAL s_BinaryOperator_GREATER s_BinaryOperator_GREATER_OR_EQUAL s_BinaryOperator_EQUAL s_BinaryOperator_NOT_EQUAL s_BinaryOperator_AND s_BinaryOperator_OR)) ∧ Fr n0 L ∧ h = h0) := by
  refine own_enter (plainFor_of_name own_pn_com_example_interleaving_explorer_interleavingexplorer_lang_BinaryOperatorIsDecidedByPinLaw) ?_
  intro p e s m below meth c s₁ P hx hby hml hrt hlk hown hnm hZ X0 e0 hP
  have N0 := Fr.nil n0
  have K0 := Keep.refl h0 []
  have hml' : c.maxLocals = 1 := hml
  refine own_cast (own_ef1 m p0) ?_
  show own_End p e below P (s₁.setTop (mkF m 0 #[.val (.int p0)] []))
  refine own_st (fun _ => XS.iloadN X0.here hx rfl (hb hby own_d1_0) rfl) ?_
  show own_End p e below P (s₁.setTop (mkF m 1 #[.val (.int p0)] [(.int p0)]))
  by_cases hc1 : p0 = (0 : Int32)
  · refine own_st (fun _ => XS.ifNo X0.here hx rfl (hb hby own_d1_1) rfl ((if0 _ _).trans (teq hc1).2)) ?_
    show own_End p e below P (s₁.setTop (mkF m 4 #[.val (.int p0)] []))
    obtain ⟨T2, X2, e2, st2⟩ := getS2 X0 hx hZ hown (host := "") (Or.inl (hw _ (List.mem_of_getElem? (i := 5) rfl))) Via.refl e0 S_BinaryOperator_MULTIPLY (g := (mkF m 4 #[.val (.int p0)] [])) rfl (hb hby own_d1_4)
    refine own_st (fun _ => st2 _) ?_
    show own_End p e below P (T2.setTop (mkF m 7 #[.val (.int p0)] [(.ref s_BinaryOperator_MULTIPLY)]))
    refine own_retR X2 hx hlk hP rfl rfl hrt (hb hby own_d1_7) (by decide) (by decide) ⟨congrArg (fun z => some (Value.ref z)) ?_, N0, e2⟩
    exact (show own_f1 p0 s_BinaryOperator_MULTIPLY s_BinaryOperator_DIVIDE s_BinaryOperator_REMAINDER s_BinaryOperator_ADD s_BinaryOperator_SUBTRACT s_BinaryOperator_LESS s_BinaryOperator_LESS_OR_EQUAL s_BinaryOperator_GREATER s_BinaryOperator_GREATER_OR_EQUAL s_BinaryOperator_EQUAL s_BinaryOperator_NOT_EQUAL s_BinaryOperator_AND s_BinaryOperator_OR = s_BinaryOperator_MULTIPLY from (if_pos hc1).trans (rfl)).symm
  · refine own_st (fun _ => XS.ifYes X0.here hx rfl (pc0 := 1) (pc' := 8) rfl (hb hby own_d1_1) rfl ((if0 _ _).trans (feq hc1).2) (by decide) (by decide)) ?_
    show own_End p e below P (s₁.setTop (mkF m 8 #[.val (.int p0)] []))
    refine own_st (fun _ => XS.iloadN X0.here hx rfl (hb hby own_d1_8) rfl) ?_
    show own_End p e below P (s₁.setTop (mkF m 9 #[.val (.int p0)] [(.int p0)]))
    refine own_st (fun _ => XS.iconst X0.here hx rfl (hb hby own_d1_9)) ?_
    show own_End p e below P (s₁.setTop (mkF m 10 #[.val (.int p0)] [(.int (1 : Int32)), (.int p0)]))
    by_cases hc3 : p0 = (1 : Int32)
    · refine own_st (fun _ => XS.icmpNo X0.here hx rfl (hb hby own_d1_10) rfl (teq hc3).2) ?_
      show own_End p e below P (s₁.setTop (mkF m 13 #[.val (.int p0)] []))
      obtain ⟨T4, X4, e4, st4⟩ := getS2 X0 hx hZ hown (host := "") (Or.inl (hw _ (List.mem_of_getElem? (i := 35) rfl))) Via.refl e0 S_BinaryOperator_DIVIDE (g := (mkF m 13 #[.val (.int p0)] [])) rfl (hb hby own_d1_13)
      refine own_st (fun _ => st4 _) ?_
      show own_End p e below P (T4.setTop (mkF m 16 #[.val (.int p0)] [(.ref s_BinaryOperator_DIVIDE)]))
      refine own_retR X4 hx hlk hP rfl rfl hrt (hb hby own_d1_16) (by decide) (by decide) ⟨congrArg (fun z => some (Value.ref z)) ?_, N0, e4⟩
      exact (show own_f1 p0 s_BinaryOperator_MULTIPLY s_BinaryOperator_DIVIDE s_BinaryOperator_REMAINDER s_BinaryOperator_ADD s_BinaryOperator_SUBTRACT s_BinaryOperator_LESS s_BinaryOperator_LESS_OR_EQUAL s_BinaryOperator_GREATER s_BinaryOperator_GREATER_OR_EQUAL s_BinaryOperator_EQUAL s_BinaryOperator_NOT_EQUAL s_BinaryOperator_AND s_BinaryOperator_OR = s_BinaryOperator_DIVIDE from (if_neg hc1).trans ((if_pos hc3).trans (rfl))).symm
    · refine own_st (fun _ => XS.icmpYes X0.here hx rfl (pc0 := 10) (pc' := 17) rfl (hb hby own_d1_10) rfl (feq hc3).2 (by decide) (by decide)) ?_
      show own_End p e below P (s₁.setTop (mkF m 17 #[.val (.int p0)] []))
      refine own_st (fun _ => XS.iloadN X0.here hx rfl (hb hby own_d1_17) rfl) ?_
      show own_End p e below P (s₁.setTop (mkF m 18 #[.val (.int p0)] [(.int p0)]))
      refine own_st (fun _ => XS.iconst X0.here hx rfl (hb hby own_d1_18)) ?_
      show own_End p e below P (s₁.setTop (mkF m 19 #[.val (.int p0)] [(.int (2 : Int32)), (.int p0)]))
      by_cases hc5 : p0 = (2 : Int32)
      · refine own_st (fun _ => XS.icmpNo X0.here hx rfl (hb hby own_d1_19) rfl (teq hc5).2) ?_
        show own_End p e below P (s₁.setTop (mkF m 22 #[.val (.int p0)] []))
        obtain ⟨T6, X6, e6, st6⟩ := getS2 X0 hx hZ hown (host := "") (Or.inl (hw _ (List.mem_of_getElem? (i := 37) rfl))) Via.refl e0 S_BinaryOperator_REMAINDER (g := (mkF m 22 #[.val (.int p0)] [])) rfl (hb hby own_d1_22)
        refine own_st (fun _ => st6 _) ?_
        show own_End p e below P (T6.setTop (mkF m 25 #[.val (.int p0)] [(.ref s_BinaryOperator_REMAINDER)]))
        refine own_retR X6 hx hlk hP rfl rfl hrt (hb hby own_d1_25) (by decide) (by decide) ⟨congrArg (fun z => some (Value.ref z)) ?_, N0, e6⟩
        exact (show own_f1 p0 s_BinaryOperator_MULTIPLY s_BinaryOperator_DIVIDE s_BinaryOperator_REMAINDER s_BinaryOperator_ADD s_BinaryOperator_SUBTRACT s_BinaryOperator_LESS s_BinaryOperator_LESS_OR_EQUAL s_BinaryOperator_GREATER s_BinaryOperator_GREATER_OR_EQUAL s_BinaryOperator_EQUAL s_BinaryOperator_NOT_EQUAL s_BinaryOperator_AND s_BinaryOperator_OR = s_BinaryOperator_REMAINDER from (if_neg hc1).trans ((if_neg hc3).trans ((if_pos hc5).trans (rfl)))).symm
      · refine own_st (fun _ => XS.icmpYes X0.here hx rfl (pc0 := 19) (pc' := 26) rfl (hb hby own_d1_19) rfl (feq hc5).2 (by decide) (by decide)) ?_
        show own_End p e below P (s₁.setTop (mkF m 26 #[.val (.int p0)] []))
        refine own_st (fun _ => XS.iloadN X0.here hx rfl (hb hby own_d1_26) rfl) ?_
        show own_End p e below P (s₁.setTop (mkF m 27 #[.val (.int p0)] [(.int p0)]))
        refine own_st (fun _ => XS.iconst X0.here hx rfl (hb hby own_d1_27)) ?_
        show own_End p e below P (s₁.setTop (mkF m 28 #[.val (.int p0)] [(.int (3 : Int32)), (.int p0)]))
        by_cases hc7 : p0 = (3 : Int32)
        · refine own_st (fun _ => XS.icmpNo X0.here hx rfl (hb hby own_d1_28) rfl (teq hc7).2) ?_
          show own_End p e below P (s₁.setTop (mkF m 31 #[.val (.int p0)] []))
          obtain ⟨T8, X8, e8, st8⟩ := getS2 X0 hx hZ hown (host := "") (Or.inl (hw _ (List.mem_of_getElem? (i := 39) rfl))) Via.refl e0 S_BinaryOperator_ADD (g := (mkF m 31 #[.val (.int p0)] [])) rfl (hb hby own_d1_31)
          refine own_st (fun _ => st8 _) ?_
          show own_End p e below P (T8.setTop (mkF m 34 #[.val (.int p0)] [(.ref s_BinaryOperator_ADD)]))
          refine own_retR X8 hx hlk hP rfl rfl hrt (hb hby own_d1_34) (by decide) (by decide) ⟨congrArg (fun z => some (Value.ref z)) ?_, N0, e8⟩
          exact (show own_f1 p0 s_BinaryOperator_MULTIPLY s_BinaryOperator_DIVIDE s_BinaryOperator_REMAINDER s_BinaryOperator_ADD s_BinaryOperator_SUBTRACT s_BinaryOperator_LESS s_BinaryOperator_LESS_OR_EQUAL s_BinaryOperator_GREATER s_BinaryOperator_GREATER_OR_EQUAL s_BinaryOperator_EQUAL s_BinaryOperator_NOT_EQUAL s_BinaryOperator_AND s_BinaryOperator_OR = s_BinaryOperator_ADD from (if_neg hc1).trans ((if_neg hc3).trans ((if_neg hc5).trans ((if_pos hc7).trans (rfl))))).symm
        · refine own_st (fun _ => XS.icmpYes X0.here hx rfl (pc0 := 28) (pc' := 35) rfl (hb hby own_d1_28) rfl (feq hc7).2 (by decide) (by decide)) ?_
          show own_End p e below P (s₁.setTop (mkF m 35 #[.val (.int p0)] []))
          refine own_st (fun _ => XS.iloadN X0.here hx rfl (hb hby own_d1_35) rfl) ?_
          show own_End p e below P (s₁.setTop (mkF m 36 #[.val (.int p0)] [(.int p0)]))
          refine own_st (fun _ => XS.iconst X0.here hx rfl (hb hby own_d1_36)) ?_
          show own_End p e below P (s₁.setTop (mkF m 37 #[.val (.int p0)] [(.int (4 : Int32)), (.int p0)]))
          by_cases hc9 : p0 = (4 : Int32)
          · refine own_st (fun _ => XS.icmpNo X0.here hx rfl (hb hby own_d1_37) rfl (teq hc9).2) ?_
            show own_End p e below P (s₁.setTop (mkF m 40 #[.val (.int p0)] []))
            obtain ⟨T10, X10, e10, st10⟩ := getS2 X0 hx hZ hown (host := "") (Or.inl (hw _ (List.mem_of_getElem? (i := 47) rfl))) Via.refl e0 S_BinaryOperator_SUBTRACT (g := (mkF m 40 #[.val (.int p0)] [])) rfl (hb hby own_d1_40)
            refine own_st (fun _ => st10 _) ?_
            show own_End p e below P (T10.setTop (mkF m 43 #[.val (.int p0)] [(.ref s_BinaryOperator_SUBTRACT)]))
            refine own_retR X10 hx hlk hP rfl rfl hrt (hb hby own_d1_43) (by decide) (by decide) ⟨congrArg (fun z => some (Value.ref z)) ?_, N0, e10⟩
            exact (show own_f1 p0 s_BinaryOperator_MULTIPLY s_BinaryOperator_DIVIDE s_BinaryOperator_REMAINDER s_BinaryOperator_ADD s_BinaryOperator_SUBTRACT s_BinaryOperator_LESS s_BinaryOperator_LESS_OR_EQUAL s_BinaryOperator_GREATER s_BinaryOperator_GREATER_OR_EQUAL s_BinaryOperator_EQUAL s_BinaryOperator_NOT_EQUAL s_BinaryOperator_AND s_BinaryOperator_OR = s_BinaryOperator_SUBTRACT from (if_neg hc1).trans ((if_neg hc3).trans ((if_neg hc5).trans ((if_neg hc7).trans ((if_pos hc9).trans (rfl)))))).symm
          · refine own_st (fun _ => XS.icmpYes X0.here hx rfl (pc0 := 37) (pc' := 44) rfl (hb hby own_d1_37) rfl (feq hc9).2 (by decide) (by decide)) ?_
            show own_End p e below P (s₁.setTop (mkF m 44 #[.val (.int p0)] []))
            refine own_st (fun _ => XS.iloadN X0.here hx rfl (hb hby own_d1_44) rfl) ?_
            show own_End p e below P (s₁.setTop (mkF m 45 #[.val (.int p0)] [(.int p0)]))
            refine own_st (fun _ => XS.iconst X0.here hx rfl (hb hby own_d1_45)) ?_
            show own_End p e below P (s₁.setTop (mkF m 46 #[.val (.int p0)] [(.int (5 : Int32)), (.int p0)]))
            by_cases hc11 : p0 = (5 : Int32)
            · refine own_st (fun _ => XS.icmpNo X0.here hx rfl (hb hby own_d1_46) rfl (teq hc11).2) ?_
              show own_End p e below P (s₁.setTop (mkF m 49 #[.val (.int p0)] []))
              obtain ⟨T12, X12, e12, st12⟩ := getS2 X0 hx hZ hown (host := "") (Or.inl (hw _ (List.mem_of_getElem? (i := 45) rfl))) Via.refl e0 S_BinaryOperator_LESS (g := (mkF m 49 #[.val (.int p0)] [])) rfl (hb hby own_d1_49)
              refine own_st (fun _ => st12 _) ?_
              show own_End p e below P (T12.setTop (mkF m 52 #[.val (.int p0)] [(.ref s_BinaryOperator_LESS)]))
              refine own_retR X12 hx hlk hP rfl rfl hrt (hb hby own_d1_52) (by decide) (by decide) ⟨congrArg (fun z => some (Value.ref z)) ?_, N0, e12⟩
              exact (show own_f1 p0 s_BinaryOperator_MULTIPLY s_BinaryOperator_DIVIDE s_BinaryOperator_REMAINDER s_BinaryOperator_ADD s_BinaryOperator_SUBTRACT s_BinaryOperator_LESS s_BinaryOperator_LESS_OR_EQUAL s_BinaryOperator_GREATER s_BinaryOperator_GREATER_OR_EQUAL s_BinaryOperator_EQUAL s_BinaryOperator_NOT_EQUAL s_BinaryOperator_AND s_BinaryOperator_OR = s_BinaryOperator_LESS from (if_neg hc1).trans ((if_neg hc3).trans ((if_neg hc5).trans ((if_neg hc7).trans ((if_neg hc9).trans ((if_pos hc11).trans (rfl))))))).symm
            · refine own_st (fun _ => XS.icmpYes X0.here hx rfl (pc0 := 46) (pc' := 53) rfl (hb hby own_d1_46) rfl (feq hc11).2 (by decide) (by decide)) ?_
              show own_End p e below P (s₁.setTop (mkF m 53 #[.val (.int p0)] []))
              refine own_st (fun _ => XS.iloadN X0.here hx rfl (hb hby own_d1_53) rfl) ?_
              show own_End p e below P (s₁.setTop (mkF m 54 #[.val (.int p0)] [(.int p0)]))
              refine own_st (fun _ => XS.bipush X0.here hx rfl (hb hby own_d1_54)) ?_
              show own_End p e below P (s₁.setTop (mkF m 56 #[.val (.int p0)] [(.int (6 : Int32)), (.int p0)]))
              by_cases hc13 : p0 = (6 : Int32)
              · refine own_st (fun _ => XS.icmpNo X0.here hx rfl (hb hby own_d1_56) rfl (teq hc13).2) ?_
                show own_End p e below P (s₁.setTop (mkF m 59 #[.val (.int p0)] []))
                obtain ⟨T14, X14, e14, st14⟩ := getS2 X0 hx hZ hown (host := "") (Or.inl (hw _ (List.mem_of_getElem? (i := 43) rfl))) Via.refl e0 S_BinaryOperator_LESS_OR_EQUAL (g := (mkF m 59 #[.val (.int p0)] [])) rfl (hb hby own_d1_59)
                refine own_st (fun _ => st14 _) ?_
                show own_End p e below P (T14.setTop (mkF m 62 #[.val (.int p0)] [(.ref s_BinaryOperator_LESS_OR_EQUAL)]))
                refine own_retR X14 hx hlk hP rfl rfl hrt (hb hby own_d1_62) (by decide) (by decide) ⟨congrArg (fun z => some (Value.ref z)) ?_, N0, e14⟩
                exact (show own_f1 p0 s_BinaryOperator_MULTIPLY s_BinaryOperator_DIVIDE s_BinaryOperator_REMAINDER s_BinaryOperator_ADD s_BinaryOperator_SUBTRACT s_BinaryOperator_LESS s_BinaryOperator_LESS_OR_EQUAL s_BinaryOperator_GREATER s_BinaryOperator_GREATER_OR_EQUAL s_BinaryOperator_EQUAL s_BinaryOperator_NOT_EQUAL s_BinaryOperator_AND s_BinaryOperator_OR = s_BinaryOperator_LESS_OR_EQUAL from (if_neg hc1).trans ((if_neg hc3).trans ((if_neg hc5).trans ((if_neg hc7).trans ((if_neg hc9).trans ((if_neg hc11).trans ((if_pos hc13).trans (rfl)))))))).symm
              · refine own_st (fun _ => XS.icmpYes X0.here hx rfl (pc0 := 56) (pc' := 63) rfl (hb hby own_d1_56) rfl (feq hc13).2 (by decide) (by decide)) ?_
                show own_End p e below P (s₁.setTop (mkF m 63 #[.val (.int p0)] []))
                refine own_st (fun _ => XS.iloadN X0.here hx rfl (hb hby own_d1_63) rfl) ?_
                show own_End p e below P (s₁.setTop (mkF m 64 #[.val (.int p0)] [(.int p0)]))
                refine own_st (fun _ => XS.bipush X0.here hx rfl (hb hby own_d1_64)) ?_
                show own_End p e below P (s₁.setTop (mkF m 66 #[.val (.int p0)] [(.int (7 : Int32)), (.int p0)]))
                by_cases hc15 : p0 = (7 : Int32)
                · refine own_st (fun _ => XS.icmpNo X0.here hx rfl (hb hby own_d1_66) rfl (teq hc15).2) ?_
                  show own_End p e below P (s₁.setTop (mkF m 69 #[.val (.int p0)] []))
                  obtain ⟨T16, X16, e16, st16⟩ := getS2 X0 hx hZ hown (host := "") (Or.inl (hw _ (List.mem_of_getElem? (i := 51) rfl))) Via.refl e0 S_BinaryOperator_GREATER (g := (mkF m 69 #[.val (.int p0)] [])) rfl (hb hby own_d1_69)
                  refine own_st (fun _ => st16 _) ?_
                  show own_End p e below P (T16.setTop (mkF m 72 #[.val (.int p0)] [(.ref s_BinaryOperator_GREATER)]))
                  refine own_retR X16 hx hlk hP rfl rfl hrt (hb hby own_d1_72) (by decide) (by decide) ⟨congrArg (fun z => some (Value.ref z)) ?_, N0, e16⟩
                  exact (show own_f1 p0 s_BinaryOperator_MULTIPLY s_BinaryOperator_DIVIDE s_BinaryOperator_REMAINDER s_BinaryOperator_ADD s_BinaryOperator_SUBTRACT s_BinaryOperator_LESS s_BinaryOperator_LESS_OR_EQUAL s_BinaryOperator_GREATER s_BinaryOperator_GREATER_OR_EQUAL s_BinaryOperator_EQUAL s_BinaryOperator_NOT_EQUAL s_BinaryOperator_AND s_BinaryOperator_OR = s_BinaryOperator_GREATER from (if_neg hc1).trans ((if_neg hc3).trans ((if_neg hc5).trans ((if_neg hc7).trans ((if_neg hc9).trans ((if_neg hc11).trans ((if_neg hc13).trans ((if_pos hc15).trans (rfl))))))))).symm
                · refine own_st (fun _ => XS.icmpYes X0.here hx rfl (pc0 := 66) (pc' := 73) rfl (hb hby own_d1_66) rfl (feq hc15).2 (by decide) (by decide)) ?_
                  show own_End p e below P (s₁.setTop (mkF m 73 #[.val (.int p0)] []))
                  refine own_st (fun _ => XS.iloadN X0.here hx rfl (hb hby own_d1_73) rfl) ?_
                  show own_End p e below P (s₁.setTop (mkF m 74 #[.val (.int p0)] [(.int p0)]))
                  refine own_st (fun _ => XS.bipush X0.here hx rfl (hb hby own_d1_74)) ?_
                  show own_End p e below P (s₁.setTop (mkF m 76 #[.val (.int p0)] [(.int (8 : Int32)), (.int p0)]))
                  by_cases hc17 : p0 = (8 : Int32)
                  · refine own_st (fun _ => XS.icmpNo X0.here hx rfl (hb hby own_d1_76) rfl (teq hc17).2) ?_
                    show own_End p e below P (s₁.setTop (mkF m 79 #[.val (.int p0)] []))
                    obtain ⟨T18, X18, e18, st18⟩ := getS2 X0 hx hZ hown (host := "") (Or.inl (hw _ (List.mem_of_getElem? (i := 41) rfl))) Via.refl e0 S_BinaryOperator_GREATER_OR_EQUAL (g := (mkF m 79 #[.val (.int p0)] [])) rfl (hb hby own_d1_79)
                    refine own_st (fun _ => st18 _) ?_
                    show own_End p e below P (T18.setTop (mkF m 82 #[.val (.int p0)] [(.ref s_BinaryOperator_GREATER_OR_EQUAL)]))
                    refine own_retR X18 hx hlk hP rfl rfl hrt (hb hby own_d1_82) (by decide) (by decide) ⟨congrArg (fun z => some (Value.ref z)) ?_, N0, e18⟩
                    exact (show own_f1 p0 s_BinaryOperator_MULTIPLY s_BinaryOperator_DIVIDE s_BinaryOperator_REMAINDER s_BinaryOperator_ADD s_BinaryOperator_SUBTRACT s_BinaryOperator_LESS s_BinaryOperator_LESS_OR_EQUAL s_BinaryOperator_GREATER s_BinaryOperator_GREATER_OR_EQUAL s_BinaryOperator_EQUAL s_BinaryOperator_NOT_EQUAL s_BinaryOperator_AND s_BinaryOperator_OR = s_BinaryOperator_GREATER_OR_EQUAL from (if_neg hc1).trans ((if_neg hc3).trans ((if_neg hc5).trans ((if_neg hc7).trans ((if_neg hc9).trans ((if_neg hc11).trans ((if_neg hc13).trans ((if_neg hc15).trans ((if_pos hc17).trans (rfl)))))))))).symm
                  · refine own_st (fun _ => XS.icmpYes X0.here hx rfl (pc0 := 76) (pc' := 83) rfl (hb hby own_d1_76) rfl (feq hc17).2 (by decide) (by decide)) ?_
                    show own_End p e below P (s₁.setTop (mkF m 83 #[.val (.int p0)] []))
                    refine own_st (fun _ => XS.iloadN X0.here hx rfl (hb hby own_d1_83) rfl) ?_
                    show own_End p e below P (s₁.setTop (mkF m 84 #[.val (.int p0)] [(.int p0)]))
                    refine own_st (fun _ => XS.bipush X0.here hx rfl (hb hby own_d1_84)) ?_
                    show own_End p e below P (s₁.setTop (mkF m 86 #[.val (.int p0)] [(.int (9 : Int32)), (.int p0)]))
                    by_cases hc19 : p0 = (9 : Int32)
                    · refine own_st (fun _ => XS.icmpNo X0.here hx rfl (hb hby own_d1_86) rfl (teq hc19).2) ?_
                      show own_End p e below P (s₁.setTop (mkF m 89 #[.val (.int p0)] []))
                      obtain ⟨T20, X20, e20, st20⟩ := getS2 X0 hx hZ hown (host := "") (Or.inl (hw _ (List.mem_of_getElem? (i := 49) rfl))) Via.refl e0 S_BinaryOperator_EQUAL (g := (mkF m 89 #[.val (.int p0)] [])) rfl (hb hby own_d1_89)
                      refine own_st (fun _ => st20 _) ?_
                      show own_End p e below P (T20.setTop (mkF m 92 #[.val (.int p0)] [(.ref s_BinaryOperator_EQUAL)]))
                      refine own_retR X20 hx hlk hP rfl rfl hrt (hb hby own_d1_92) (by decide) (by decide) ⟨congrArg (fun z => some (Value.ref z)) ?_, N0, e20⟩
                      exact (show own_f1 p0 s_BinaryOperator_MULTIPLY s_BinaryOperator_DIVIDE s_BinaryOperator_REMAINDER s_BinaryOperator_ADD s_BinaryOperator_SUBTRACT s_BinaryOperator_LESS s_BinaryOperator_LESS_OR_EQUAL s_BinaryOperator_GREATER s_BinaryOperator_GREATER_OR_EQUAL s_BinaryOperator_EQUAL s_BinaryOperator_NOT_EQUAL s_BinaryOperator_AND s_BinaryOperator_OR = s_BinaryOperator_EQUAL from (if_neg hc1).trans ((if_neg hc3).trans ((if_neg hc5).trans ((if_neg hc7).trans ((if_neg hc9).trans ((if_neg hc11).trans ((if_neg hc13).trans ((if_neg hc15).trans ((if_neg hc17).trans ((if_pos hc19).trans (rfl))))))))))).symm
                    · refine own_st (fun _ => XS.icmpYes X0.here hx rfl (pc0 := 86) (pc' := 93) rfl (hb hby own_d1_86) rfl (feq hc19).2 (by decide) (by decide)) ?_
                      show own_End p e below P (s₁.setTop (mkF m 93 #[.val (.int p0)] []))
                      refine own_st (fun _ => XS.iloadN X0.here hx rfl (hb hby own_d1_93) rfl) ?_
                      show own_End p e below P (s₁.setTop (mkF m 94 #[.val (.int p0)] [(.int p0)]))
                      refine own_st (fun _ => XS.bipush X0.here hx rfl (hb hby own_d1_94)) ?_
                      show own_End p e below P (s₁.setTop (mkF m 96 #[.val (.int p0)] [(.int (10 : Int32)), (.int p0)]))
                      by_cases hc21 : p0 = (10 : Int32)
                      · refine own_st (fun _ => XS.icmpNo X0.here hx rfl (hb hby own_d1_96) rfl (teq hc21).2) ?_
                        show own_End p e below P (s₁.setTop (mkF m 99 #[.val (.int p0)] []))
                        obtain ⟨T22, X22, e22, st22⟩ := getS2 X0 hx hZ hown (host := "") (Or.inl (hw _ (List.mem_of_getElem? (i := 53) rfl))) Via.refl e0 S_BinaryOperator_NOT_EQUAL (g := (mkF m 99 #[.val (.int p0)] [])) rfl (hb hby own_d1_99)
                        refine own_st (fun _ => st22 _) ?_
                        show own_End p e below P (T22.setTop (mkF m 102 #[.val (.int p0)] [(.ref s_BinaryOperator_NOT_EQUAL)]))
                        refine own_retR X22 hx hlk hP rfl rfl hrt (hb hby own_d1_102) (by decide) (by decide) ⟨congrArg (fun z => some (Value.ref z)) ?_, N0, e22⟩
                        exact (show own_f1 p0 s_BinaryOperator_MULTIPLY s_BinaryOperator_DIVIDE s_BinaryOperator_REMAINDER s_BinaryOperator_ADD s_BinaryOperator_SUBTRACT s_BinaryOperator_LESS s_BinaryOperator_LESS_OR_EQUAL s_BinaryOperator_GREATER s_BinaryOperator_GREATER_OR_EQUAL s_BinaryOperator_EQUAL s_BinaryOperator_NOT_EQUAL s_BinaryOperator_AND s_BinaryOperator_OR = s_BinaryOperator_NOT_EQUAL from (if_neg hc1).trans ((if_neg hc3).trans ((if_neg hc5).trans ((if_neg hc7).trans ((if_neg hc9).trans ((if_neg hc11).trans ((if_neg hc13).trans ((if_neg hc15).trans ((if_neg hc17).trans ((if_neg hc19).trans ((if_pos hc21).trans (rfl)))))))))))).symm
                      · refine own_st (fun _ => XS.icmpYes X0.here hx rfl (pc0 := 96) (pc' := 103) rfl (hb hby own_d1_96) rfl (feq hc21).2 (by decide) (by decide)) ?_
                        show own_End p e below P (s₁.setTop (mkF m 103 #[.val (.int p0)] []))
                        refine own_st (fun _ => XS.iloadN X0.here hx rfl (hb hby own_d1_103) rfl) ?_
                        show own_End p e below P (s₁.setTop (mkF m 104 #[.val (.int p0)] [(.int p0)]))
                        refine own_st (fun _ => XS.bipush X0.here hx rfl (hb hby own_d1_104)) ?_
                        show own_End p e below P (s₁.setTop (mkF m 106 #[.val (.int p0)] [(.int (11 : Int32)), (.int p0)]))
                        by_cases hc23 : p0 = (11 : Int32)
                        · refine own_st (fun _ => XS.icmpNo X0.here hx rfl (hb hby own_d1_106) rfl (teq hc23).2) ?_
                          show own_End p e below P (s₁.setTop (mkF m 109 #[.val (.int p0)] []))
                          obtain ⟨T24, X24, e24, st24⟩ := getS2 X0 hx hZ hown (host := "") (Or.inl (hw _ (List.mem_of_getElem? (i := 55) rfl))) Via.refl e0 S_BinaryOperator_AND (g := (mkF m 109 #[.val (.int p0)] [])) rfl (hb hby own_d1_109)
                          refine own_st (fun _ => st24 _) ?_
                          show own_End p e below P (T24.setTop (mkF m 112 #[.val (.int p0)] [(.ref s_BinaryOperator_AND)]))
                          refine own_retR X24 hx hlk hP rfl rfl hrt (hb hby own_d1_112) (by decide) (by decide) ⟨congrArg (fun z => some (Value.ref z)) ?_, N0, e24⟩
                          exact (show own_f1 p0 s_BinaryOperator_MULTIPLY s_BinaryOperator_DIVIDE s_BinaryOperator_REMAINDER s_BinaryOperator_ADD s_BinaryOperator_SUBTRACT s_BinaryOperator_LESS s_BinaryOperator_LESS_OR_EQUAL s_BinaryOperator_GREATER s_BinaryOperator_GREATER_OR_EQUAL s_BinaryOperator_EQUAL s_BinaryOperator_NOT_EQUAL s_BinaryOperator_AND s_BinaryOperator_OR = s_BinaryOperator_AND from (if_neg hc1).trans ((if_neg hc3).trans ((if_neg hc5).trans ((if_neg hc7).trans ((if_neg hc9).trans ((if_neg hc11).trans ((if_neg hc13).trans ((if_neg hc15).trans ((if_neg hc17).trans ((if_neg hc19).trans ((if_neg hc21).trans ((if_pos hc23).trans (rfl))))))))))))).symm
                        · refine own_st (fun _ => XS.icmpYes X0.here hx rfl (pc0 := 106) (pc' := 113) rfl (hb hby own_d1_106) rfl (feq hc23).2 (by decide) (by decide)) ?_
                          show own_End p e below P (s₁.setTop (mkF m 113 #[.val (.int p0)] []))
                          obtain ⟨T25, X25, e25, st25⟩ := getS2 X0 hx hZ hown (host := "") (Or.inl (hw _ (List.mem_of_getElem? (i := 17) rfl))) Via.refl e0 S_BinaryOperator_OR (g := (mkF m 113 #[.val (.int p0)] [])) rfl (hb hby own_d1_113)
                          refine own_st (fun _ => st25 _) ?_
                          show own_End p e below P (T25.setTop (mkF m 116 #[.val (.int p0)] [(.ref s_BinaryOperator_OR)]))
                          refine own_retR X25 hx hlk hP rfl rfl hrt (hb hby own_d1_116) (by decide) (by decide) ⟨congrArg (fun z => some (Value.ref z)) ?_, N0, e25⟩
                          exact (show own_f1 p0 s_BinaryOperator_MULTIPLY s_BinaryOperator_DIVIDE s_BinaryOperator_REMAINDER s_BinaryOperator_ADD s_BinaryOperator_SUBTRACT s_BinaryOperator_LESS s_BinaryOperator_LESS_OR_EQUAL s_BinaryOperator_GREATER s_BinaryOperator_GREATER_OR_EQUAL s_BinaryOperator_EQUAL s_BinaryOperator_NOT_EQUAL s_BinaryOperator_AND s_BinaryOperator_OR = s_BinaryOperator_OR from (if_neg hc1).trans ((if_neg hc3).trans ((if_neg hc5).trans ((if_neg hc7).trans ((if_neg hc9).trans ((if_neg hc11).trans ((if_neg hc13).trans ((if_neg hc15).trans ((if_neg hc17).trans ((if_neg hc19).trans ((if_neg hc21).trans ((if_neg hc23).trans (rfl))))))))))))).symm
theorem own_d2_0 : decode prog_36_method_7_code 0 = .ok (.aload_n 0, 1) := by decide +kernel
theorem own_d2_1 : decode prog_36_method_7_code 1 = .ok (.getstatic 37, 3) := by decide +kernel
theorem own_d2_4 : decode prog_36_method_7_code 4 = .ok (.if_acmp .ne 7, 3) := by decide +kernel
theorem own_d2_7 : decode prog_36_method_7_code 7 = .ok (.iload_n 1, 1) := by decide +kernel
theorem own_d2_8 : decode prog_36_method_7_code 8 = .ok (.ifCond .eq 14, 3) := by decide +kernel
theorem own_d2_22 : decode prog_36_method_7_code 22 = .ok (.iconst 1, 1) := by decide +kernel
theorem own_d2_23 : decode prog_36_method_7_code 23 = .ok (.goto 4, 3) := by decide +kernel
theorem own_d2_27 : decode prog_36_method_7_code 27 = .ok (.ireturn, 1) := by decide +kernel
theorem own_d2_11 : decode prog_36_method_7_code 11 = .ok (.aload_n 0, 1) := by decide +kernel
theorem own_d2_12 : decode prog_36_method_7_code 12 = .ok (.getstatic 40, 3) := by decide +kernel
theorem own_d2_15 : decode prog_36_method_7_code 15 = .ok (.if_acmp .ne 11, 3) := by decide +kernel
theorem own_d2_18 : decode prog_36_method_7_code 18 = .ok (.iload_n 1, 1) := by decide +kernel
theorem own_d2_19 : decode prog_36_method_7_code 19 = .ok (.ifCond .eq 7, 3) := by decide +kernel
theorem own_d2_26 : decode prog_36_method_7_code 26 = .ok (.iconst 0, 1) := by decide +kernel
theorem own_ef2 (m : MethodId) (o0 : Addr) (p1 : Int32) : entryFrame m #[(.ref o0), (.int p1)] 2 = mkF m 0 #[.val (.ref o0), .val (.int p1)] [] := by first | (simp [entryFrame, mkF, argsToLocals, Value.category]; done) | rfl
def own_f2 (o0 : Addr) (p1 : Int32) (s_BinaryOperator_AND : Addr) (s_BinaryOperator_OR : Addr) : Int32 := (if o0 = s_BinaryOperator_AND then (if p1 = (0 : Int32) then (1 : Int32) else (if o0 = s_BinaryOperator_OR then (1 : Int32) else (0 : Int32))) else (if o0 = s_BinaryOperator_OR then (if p1 = (0 : Int32) then (0 : Int32) else (1 : Int32)) else (0 : Int32)))
theorem own_pn_com_example_interleaving_explorer_interleavingexplorer_lang_BinaryOperator : plainName "com/example/interleaving_explorer/interleavingexplorer/lang/BinaryOperator" = true := by first | (simp [plainName, overriddenIn]; done) | decide +kernel
set_option maxRecDepth 65536 in
set_option maxHeartbeats 40000000 in
theorem own_m2 (l : Launch) (Z : State) (a0 : Array Value) (hw : ∀ d ∈ tables_1, d.before a0 Z = true) (ws : List Jvm.Cond) (o0 : Addr) (p1 : Int32) (s_BinaryOperator_AND : Addr) (s_BinaryOperator_OR : Addr) (h0 : Heap) (n0 : Nat) (Z0 : n0 ≤ h0.size) (S_BinaryOperator_AND : Sta Z h0 "com/example/interleaving_explorer/interleavingexplorer/lang/BinaryOperator" "AND" "Lcom/example/interleaving_explorer/interleavingexplorer/lang/BinaryOperator;" (.ref s_BinaryOperator_AND)) (S_BinaryOperator_OR : Sta Z h0 "com/example/interleaving_explorer/interleavingexplorer/lang/BinaryOperator" "OR" "Lcom/example/interleaving_explorer/interleavingexplorer/lang/BinaryOperator;" (.ref s_BinaryOperator_OR)) :
    own_Met l Z (⟨"com/example/interleaving_explorer/interleavingexplorer/lang/BinaryOperator", "isDecidedBy", "(I)Z"⟩ : MethodName) prog_36_method_7_code 2 (some .boolean) ws ({ frames := 0, cells := 0, slots := 0, locals := 0 } : Room) #[(.ref o0), (.int p1)] h0 (fun (v : Option Value) (h : Heap) (L : List Loc) => v = some (.int (own_f2 o0 p1 s_BinaryOperator_AND s_BinaryOperator_OR)) ∧ Fr n0 L ∧ h = h0) := by
  refine own_enter (plainFor_of_name own_pn_com_example_interleaving_explorer_interleavingexplorer_lang_BinaryOperator) ?_
  intro p e s m below meth c s₁ P hx hby hml hrt hlk hown hnm hZ X0 e0 hP
  have N0 := Fr.nil n0
  have K0 := Keep.refl h0 []
  have hml' : c.maxLocals = 2 := hml
  refine own_cast (own_ef2 m o0 p1) ?_
  show own_End p e below P (s₁.setTop (mkF m 0 #[.val (.ref o0), .val (.int p1)] []))
  refine own_st (fun _ => XS.aloadN X0.here hx rfl (hb hby own_d2_0) rfl rfl) ?_
  show own_End p e below P (s₁.setTop (mkF m 1 #[.val (.ref o0), .val (.int p1)] [(.ref o0)]))
  obtain ⟨T1, X1, e1, st1⟩ := getS2 X0 hx hZ hown (host := "") (Or.inl (hw _ (List.mem_of_getElem? (i := 13) rfl))) Via.refl e0 S_BinaryOperator_AND (g := (mkF m 1 #[.val (.ref o0), .val (.int p1)] [(.ref o0)])) rfl (hb hby own_d2_1)
  refine own_st (fun _ => st1 _) ?_
  show own_End p e below P (T1.setTop (mkF m 4 #[.val (.ref o0), .val (.int p1)] [(.ref s_BinaryOperator_AND), (.ref o0)]))
  by_cases hc2 : o0 = s_BinaryOperator_AND
  · refine own_st (fun _ => Jvm.RoadKit.acmp (g := (mkF m 4 #[.val (.ref o0), .val (.int p1)] [(.ref s_BinaryOperator_AND), (.ref o0)])) X1 hx rfl rfl rfl (pc0 := 4) (pc' := 7) (same := true) rfl (hb hby own_d2_4) rfl (decide_eq_true (congrArg Value.ref hc2)) (by decide) (by decide)) ?_
    show own_End p e below P (T1.setTop (mkF m 7 #[.val (.ref o0), .val (.int p1)] []))
    refine own_st (fun _ => XS.iloadN X1.here hx rfl (hb hby own_d2_7) rfl) ?_
    show own_End p e below P (T1.setTop (mkF m 8 #[.val (.ref o0), .val (.int p1)] [(.int p1)]))
    by_cases hc3 : p1 = (0 : Int32)
    · refine own_st (fun _ => XS.ifYes X1.here hx rfl (pc0 := 8) (pc' := 22) rfl (hb hby own_d2_8) rfl ((if0 _ _).trans (teq hc3).1) (by decide) (by decide)) ?_
      show own_End p e below P (T1.setTop (mkF m 22 #[.val (.ref o0), .val (.int p1)] []))
      refine own_st (fun _ => XS.iconst X1.here hx rfl (hb hby own_d2_22)) ?_
      show own_End p e below P (T1.setTop (mkF m 23 #[.val (.ref o0), .val (.int p1)] [(.int (1 : Int32))]))
      refine own_st (fun _ => XS.goto X1.here hx rfl (pc0 := 23) (pc' := 27) rfl (hb hby own_d2_23) (by decide) (by decide)) ?_
      show own_End p e below P (T1.setTop (mkF m 27 #[.val (.ref o0), .val (.int p1)] [(.int (1 : Int32))]))
      refine own_retN X1 hx hlk hP (t := .boolean) (by simp) hrt (hb hby own_d2_27) (by decide) (by decide) ⟨congrArg (fun z => some (Value.int z)) ?_, N0, e1⟩
      exact (show own_f2 o0 p1 s_BinaryOperator_AND s_BinaryOperator_OR = (1 : Int32) from (if_pos hc2).trans ((if_pos hc3).trans (rfl))).symm
    · refine own_st (fun _ => XS.ifNo X1.here hx rfl (hb hby own_d2_8) rfl ((if0 _ _).trans (feq hc3).1)) ?_
      show own_End p e below P (T1.setTop (mkF m 11 #[.val (.ref o0), .val (.int p1)] []))
      refine own_st (fun _ => XS.aloadN X1.here hx rfl (hb hby own_d2_11) rfl rfl) ?_
      show own_End p e below P (T1.setTop (mkF m 12 #[.val (.ref o0), .val (.int p1)] [(.ref o0)]))
      obtain ⟨T4, X4, e4, st4⟩ := getS2 X1 hx hZ hown (host := "") (Or.inl (hw _ (List.mem_of_getElem? (i := 15) rfl))) Via.refl e1 S_BinaryOperator_OR (g := (mkF m 12 #[.val (.ref o0), .val (.int p1)] [(.ref o0)])) rfl (hb hby own_d2_12)
      refine own_st (fun _ => st4 _) ?_
      show own_End p e below P (T4.setTop (mkF m 15 #[.val (.ref o0), .val (.int p1)] [(.ref s_BinaryOperator_OR), (.ref o0)]))
      by_cases hc5 : o0 = s_BinaryOperator_OR
      · refine own_st (fun _ => Jvm.RoadKit.acmp (g := (mkF m 15 #[.val (.ref o0), .val (.int p1)] [(.ref s_BinaryOperator_OR), (.ref o0)])) X4 hx rfl rfl rfl (pc0 := 15) (pc' := 18) (same := true) rfl (hb hby own_d2_15) rfl (decide_eq_true (congrArg Value.ref hc5)) (by decide) (by decide)) ?_
        show own_End p e below P (T4.setTop (mkF m 18 #[.val (.ref o0), .val (.int p1)] []))
        refine own_st (fun _ => XS.iloadN X4.here hx rfl (hb hby own_d2_18) rfl) ?_
        show own_End p e below P (T4.setTop (mkF m 19 #[.val (.ref o0), .val (.int p1)] [(.int p1)]))
        refine own_st (fun _ => XS.ifNo X4.here hx rfl (hb hby own_d2_19) rfl ((if0 _ _).trans (feq hc3).1)) ?_
        show own_End p e below P (T4.setTop (mkF m 22 #[.val (.ref o0), .val (.int p1)] []))
        refine own_st (fun _ => XS.iconst X4.here hx rfl (hb hby own_d2_22)) ?_
        show own_End p e below P (T4.setTop (mkF m 23 #[.val (.ref o0), .val (.int p1)] [(.int (1 : Int32))]))
        refine own_st (fun _ => XS.goto X4.here hx rfl (pc0 := 23) (pc' := 27) rfl (hb hby own_d2_23) (by decide) (by decide)) ?_
        show own_End p e below P (T4.setTop (mkF m 27 #[.val (.ref o0), .val (.int p1)] [(.int (1 : Int32))]))
        refine own_retN X4 hx hlk hP (t := .boolean) (by simp) hrt (hb hby own_d2_27) (by decide) (by decide) ⟨congrArg (fun z => some (Value.int z)) ?_, N0, e4⟩
        exact (show own_f2 o0 p1 s_BinaryOperator_AND s_BinaryOperator_OR = (1 : Int32) from (if_pos hc2).trans ((if_neg hc3).trans ((if_pos hc5).trans (rfl)))).symm
      · refine own_st (fun _ => Jvm.RoadKit.acmp (g := (mkF m 15 #[.val (.ref o0), .val (.int p1)] [(.ref s_BinaryOperator_OR), (.ref o0)])) X4 hx rfl rfl rfl (pc0 := 15) (pc' := 26) (same := false) rfl (hb hby own_d2_15) rfl (decide_eq_false fun q => hc5 (Value.ref.inj q)) (by decide) (by decide)) ?_
        show own_End p e below P (T4.setTop (mkF m 26 #[.val (.ref o0), .val (.int p1)] []))
        refine own_st (fun _ => XS.iconst X4.here hx rfl (hb hby own_d2_26)) ?_
        show own_End p e below P (T4.setTop (mkF m 27 #[.val (.ref o0), .val (.int p1)] [(.int (0 : Int32))]))
        refine own_retN X4 hx hlk hP (t := .boolean) (by simp) hrt (hb hby own_d2_27) (by decide) (by decide) ⟨congrArg (fun z => some (Value.int z)) ?_, N0, e4⟩
        exact (show own_f2 o0 p1 s_BinaryOperator_AND s_BinaryOperator_OR = (0 : Int32) from (if_pos hc2).trans ((if_neg hc3).trans ((if_neg hc5).trans (rfl)))).symm
  · refine own_st (fun _ => Jvm.RoadKit.acmp (g := (mkF m 4 #[.val (.ref o0), .val (.int p1)] [(.ref s_BinaryOperator_AND), (.ref o0)])) X1 hx rfl rfl rfl (pc0 := 4) (pc' := 11) (same := false) rfl (hb hby own_d2_4) rfl (decide_eq_false fun q => hc2 (Value.ref.inj q)) (by decide) (by decide)) ?_
    show own_End p e below P (T1.setTop (mkF m 11 #[.val (.ref o0), .val (.int p1)] []))
    refine own_st (fun _ => XS.aloadN X1.here hx rfl (hb hby own_d2_11) rfl rfl) ?_
    show own_End p e below P (T1.setTop (mkF m 12 #[.val (.ref o0), .val (.int p1)] [(.ref o0)]))
    obtain ⟨T6, X6, e6, st6⟩ := getS2 X1 hx hZ hown (host := "") (Or.inl (hw _ (List.mem_of_getElem? (i := 15) rfl))) Via.refl e1 S_BinaryOperator_OR (g := (mkF m 12 #[.val (.ref o0), .val (.int p1)] [(.ref o0)])) rfl (hb hby own_d2_12)
    refine own_st (fun _ => st6 _) ?_
    show own_End p e below P (T6.setTop (mkF m 15 #[.val (.ref o0), .val (.int p1)] [(.ref s_BinaryOperator_OR), (.ref o0)]))
    by_cases hc7 : o0 = s_BinaryOperator_OR
    · refine own_st (fun _ => Jvm.RoadKit.acmp (g := (mkF m 15 #[.val (.ref o0), .val (.int p1)] [(.ref s_BinaryOperator_OR), (.ref o0)])) X6 hx rfl rfl rfl (pc0 := 15) (pc' := 18) (same := true) rfl (hb hby own_d2_15) rfl (decide_eq_true (congrArg Value.ref hc7)) (by decide) (by decide)) ?_
      show own_End p e below P (T6.setTop (mkF m 18 #[.val (.ref o0), .val (.int p1)] []))
      refine own_st (fun _ => XS.iloadN X6.here hx rfl (hb hby own_d2_18) rfl) ?_
      show own_End p e below P (T6.setTop (mkF m 19 #[.val (.ref o0), .val (.int p1)] [(.int p1)]))
      by_cases hc8 : p1 = (0 : Int32)
      · refine own_st (fun _ => XS.ifYes X6.here hx rfl (pc0 := 19) (pc' := 26) rfl (hb hby own_d2_19) rfl ((if0 _ _).trans (teq hc8).1) (by decide) (by decide)) ?_
        show own_End p e below P (T6.setTop (mkF m 26 #[.val (.ref o0), .val (.int p1)] []))
        refine own_st (fun _ => XS.iconst X6.here hx rfl (hb hby own_d2_26)) ?_
        show own_End p e below P (T6.setTop (mkF m 27 #[.val (.ref o0), .val (.int p1)] [(.int (0 : Int32))]))
        refine own_retN X6 hx hlk hP (t := .boolean) (by simp) hrt (hb hby own_d2_27) (by decide) (by decide) ⟨congrArg (fun z => some (Value.int z)) ?_, N0, e6⟩
        exact (show own_f2 o0 p1 s_BinaryOperator_AND s_BinaryOperator_OR = (0 : Int32) from (if_neg hc2).trans ((if_pos hc7).trans ((if_pos hc8).trans (rfl)))).symm
      · refine own_st (fun _ => XS.ifNo X6.here hx rfl (hb hby own_d2_19) rfl ((if0 _ _).trans (feq hc8).1)) ?_
        show own_End p e below P (T6.setTop (mkF m 22 #[.val (.ref o0), .val (.int p1)] []))
        refine own_st (fun _ => XS.iconst X6.here hx rfl (hb hby own_d2_22)) ?_
        show own_End p e below P (T6.setTop (mkF m 23 #[.val (.ref o0), .val (.int p1)] [(.int (1 : Int32))]))
        refine own_st (fun _ => XS.goto X6.here hx rfl (pc0 := 23) (pc' := 27) rfl (hb hby own_d2_23) (by decide) (by decide)) ?_
        show own_End p e below P (T6.setTop (mkF m 27 #[.val (.ref o0), .val (.int p1)] [(.int (1 : Int32))]))
        refine own_retN X6 hx hlk hP (t := .boolean) (by simp) hrt (hb hby own_d2_27) (by decide) (by decide) ⟨congrArg (fun z => some (Value.int z)) ?_, N0, e6⟩
        exact (show own_f2 o0 p1 s_BinaryOperator_AND s_BinaryOperator_OR = (1 : Int32) from (if_neg hc2).trans ((if_pos hc7).trans ((if_neg hc8).trans (rfl)))).symm
    · refine own_st (fun _ => Jvm.RoadKit.acmp (g := (mkF m 15 #[.val (.ref o0), .val (.int p1)] [(.ref s_BinaryOperator_OR), (.ref o0)])) X6 hx rfl rfl rfl (pc0 := 15) (pc' := 26) (same := false) rfl (hb hby own_d2_15) rfl (decide_eq_false fun q => hc7 (Value.ref.inj q)) (by decide) (by decide)) ?_
      show own_End p e below P (T6.setTop (mkF m 26 #[.val (.ref o0), .val (.int p1)] []))
      refine own_st (fun _ => XS.iconst X6.here hx rfl (hb hby own_d2_26)) ?_
      show own_End p e below P (T6.setTop (mkF m 27 #[.val (.ref o0), .val (.int p1)] [(.int (0 : Int32))]))
      refine own_retN X6 hx hlk hP (t := .boolean) (by simp) hrt (hb hby own_d2_27) (by decide) (by decide) ⟨congrArg (fun z => some (Value.int z)) ?_, N0, e6⟩
      exact (show own_f2 o0 p1 s_BinaryOperator_AND s_BinaryOperator_OR = (0 : Int32) from (if_neg hc2).trans ((if_neg hc7).trans (rfl))).symm
theorem own_d3_0 : decode prog_36_method_9_code 0 = .ok (.iload_n 0, 1) := by decide +kernel
theorem own_d3_1 : decode prog_36_method_9_code 1 = .ok (.ifCond .eq 7, 3) := by decide +kernel
theorem own_d3_8 : decode prog_36_method_9_code 8 = .ok (.iconst 0, 1) := by decide +kernel
theorem own_d3_9 : decode prog_36_method_9_code 9 = .ok (.ireturn, 1) := by decide +kernel
theorem own_d3_4 : decode prog_36_method_9_code 4 = .ok (.iconst 1, 1) := by decide +kernel
theorem own_d3_5 : decode prog_36_method_9_code 5 = .ok (.goto 4, 3) := by decide +kernel
theorem own_ef3 (m : MethodId) (p0 : Int32) : entryFrame m #[(.int p0)] 1 = mkF m 0 #[.val (.int p0)] [] := by first | (simp [entryFrame, mkF, argsToLocals, Value.category]; done) | rfl
def own_f3 (p0 : Int32) : Int32 := (if p0 = (0 : Int32) then (0 : Int32) else (1 : Int32))
set_option maxRecDepth 65536 in
set_option maxHeartbeats 40000000 in
theorem own_m3 (l : Launch) (Z : State) (a0 : Array Value) (hw : ∀ d ∈ tables_1, d.before a0 Z = true) (ws : List Jvm.Cond) (p0 : Int32)  (h0 : Heap) (n0 : Nat) (Z0 : n0 ≤ h0.size)  :
    own_Met l Z (⟨"com/example/interleaving_explorer/interleavingexplorer/lang/BinaryOperator", "fromBoolean", "(Z)I"⟩ : MethodName) prog_36_method_9_code 1 (some .int) ws ({ frames := 0, cells := 0, slots := 0, locals := 0 } : Room) #[(.int p0)] h0 (fun (v : Option Value) (h : Heap) (L : List Loc) => v = some (.int (own_f3 p0)) ∧ Fr n0 L ∧ h = h0) := by
  refine own_enter (plainFor_of_name own_pn_com_example_interleaving_explorer_interleavingexplorer_lang_BinaryOperator) ?_
  intro p e s m below meth c s₁ P hx hby hml hrt hlk hown hnm hZ X0 e0 hP
  have N0 := Fr.nil n0
  have K0 := Keep.refl h0 []
  have hml' : c.maxLocals = 1 := hml
  refine own_cast (own_ef3 m p0) ?_
  show own_End p e below P (s₁.setTop (mkF m 0 #[.val (.int p0)] []))
  refine own_st (fun _ => XS.iloadN X0.here hx rfl (hb hby own_d3_0) rfl) ?_
  show own_End p e below P (s₁.setTop (mkF m 1 #[.val (.int p0)] [(.int p0)]))
  by_cases hc1 : p0 = (0 : Int32)
  · refine own_st (fun _ => XS.ifYes X0.here hx rfl (pc0 := 1) (pc' := 8) rfl (hb hby own_d3_1) rfl ((if0 _ _).trans (teq hc1).1) (by decide) (by decide)) ?_
    show own_End p e below P (s₁.setTop (mkF m 8 #[.val (.int p0)] []))
    refine own_st (fun _ => XS.iconst X0.here hx rfl (hb hby own_d3_8)) ?_
    show own_End p e below P (s₁.setTop (mkF m 9 #[.val (.int p0)] [(.int (0 : Int32))]))
    refine own_retI X0 hx hlk hP hrt (hb hby own_d3_9) (by decide) (by decide) ⟨congrArg (fun z => some (Value.int z)) ?_, N0, e0⟩
    exact (show own_f3 p0 = (0 : Int32) from (if_pos hc1).trans (rfl)).symm
  · refine own_st (fun _ => XS.ifNo X0.here hx rfl (hb hby own_d3_1) rfl ((if0 _ _).trans (feq hc1).1)) ?_
    show own_End p e below P (s₁.setTop (mkF m 4 #[.val (.int p0)] []))
    refine own_st (fun _ => XS.iconst X0.here hx rfl (hb hby own_d3_4)) ?_
    show own_End p e below P (s₁.setTop (mkF m 5 #[.val (.int p0)] [(.int (1 : Int32))]))
    refine own_st (fun _ => XS.goto X0.here hx rfl (pc0 := 5) (pc' := 9) rfl (hb hby own_d3_5) (by decide) (by decide)) ?_
    show own_End p e below P (s₁.setTop (mkF m 9 #[.val (.int p0)] [(.int (1 : Int32))]))
    refine own_retI X0 hx hlk hP hrt (hb hby own_d3_9) (by decide) (by decide) ⟨congrArg (fun z => some (Value.int z)) ?_, N0, e0⟩
    exact (show own_f3 p0 = (1 : Int32) from (if_neg hc1).trans (rfl)).symm
theorem own_dord11_0 : decode jdk_37_method_2_code 0 = .ok (.aload_n 0, 1) := by decide +kernel
theorem own_dord11_1 : decode jdk_37_method_2_code 1 = .ok (.getfield 7, 3) := by decide +kernel
theorem own_dord11_4 : decode jdk_37_method_2_code 4 = .ok (.ireturn, 1) := by decide +kernel
theorem own_eford11 (m : MethodId) (o0 : Addr) : entryFrame m #[(.ref o0)] 1 = mkF m 0 #[.val (.ref o0)] [] := by first | (simp [entryFrame, mkF, argsToLocals, Value.category]; done) | rfl
def own_ford11  : Int32 := (11 : Int32)
theorem own_pn_java_lang_Enum : plainName "java/lang/Enum" = true := by first | (simp [plainName, overriddenIn]; done) | decide +kernel
set_option maxRecDepth 65536 in
set_option maxHeartbeats 40000000 in
theorem own_mord11 (l : Launch) (Z : State) (a0 : Array Value) (hw : ∀ d ∈ tables_1, d.before a0 Z = true) (ws : List Jvm.Cond) (o0 : Addr)  (h0 : Heap) (n0 : Nat) (Z0 : n0 ≤ h0.size) (F_o0_ordinal : Fld Z h0 o0 "java/lang/Enum" "ordinal" "I" (.int (11 : Int32))) :
    own_Met l Z (⟨"java/lang/Enum", "ordinal", "()I"⟩ : MethodName) jdk_37_method_2_code 1 (some .int) ws ({ frames := 0, cells := 0, slots := 0, locals := 0 } : Room) #[(.ref o0)] h0 (fun (v : Option Value) (h : Heap) (L : List Loc) => v = some (.int (own_ford11 )) ∧ Fr n0 L ∧ h = h0) := by
  refine own_enter (plainFor_of_name own_pn_java_lang_Enum) ?_
  intro p e s m below meth c s₁ P hx hby hml hrt hlk hown hnm hZ X0 e0 hP
  have N0 := Fr.nil n0
  have K0 := Keep.refl h0 []
  have hml' : c.maxLocals = 1 := hml
  refine own_cast (own_eford11 m o0) ?_
  show own_End p e below P (s₁.setTop (mkF m 0 #[.val (.ref o0)] []))
  refine own_st (fun _ => XS.aloadN X0.here hx rfl (hb hby own_dord11_0) rfl rfl) ?_
  show own_End p e below P (s₁.setTop (mkF m 1 #[.val (.ref o0)] [(.ref o0)]))
  obtain ⟨T1, X1, e1, st1⟩ := getF X0 hx hZ hown (host := "") (Or.inl (hw _ (List.mem_of_getElem? (i := 30) rfl))) Via.refl e0 F_o0_ordinal (g := (mkF m 1 #[.val (.ref o0)] [(.ref o0)])) rfl rfl (hb hby own_dord11_1)
  refine own_st (fun _ => st1 _) ?_
  show own_End p e below P (T1.setTop (mkF m 4 #[.val (.ref o0)] [(.int (11 : Int32))]))
  refine own_retI X1 hx hlk hP hrt (hb hby own_dord11_4) (by decide) (by decide) ⟨congrArg (fun z => some (Value.int z)) ?_, N0, e1⟩
  exact (show own_ford11  = (11 : Int32) from rfl).symm
theorem own_dapp11_0 : decode prog_36_method_8_code 0 = .ok (.iload_n 2, 1) := by decide +kernel
theorem own_dapp11_1 : decode prog_36_method_8_code 1 = .ok (.ifCond .ne 20, 3) := by decide +kernel
theorem own_dapp11_4 : decode prog_36_method_8_code 4 = .ok (.aload_n 0, 1) := by decide +kernel
theorem own_dapp11_5 : decode prog_36_method_8_code 5 = .ok (.getstatic 7, 3) := by decide +kernel
theorem own_dapp11_8 : decode prog_36_method_8_code 8 = .ok (.if_acmp .ne 13, 3) := by decide +kernel
theorem own_dapp11_21 : decode prog_36_method_8_code 21 = .ok (.iload_n 2, 1) := by decide +kernel
theorem own_dapp11_22 : decode prog_36_method_8_code 22 = .ok (.ifCond .ne 20, 3) := by decide +kernel
theorem own_dapp11_25 : decode prog_36_method_8_code 25 = .ok (.aload_n 0, 1) := by decide +kernel
theorem own_dapp11_26 : decode prog_36_method_8_code 26 = .ok (.getstatic 10, 3) := by decide +kernel
theorem own_dapp11_29 : decode prog_36_method_8_code 29 = .ok (.if_acmp .ne 13, 3) := by decide +kernel
theorem own_dapp11_42 : decode prog_36_method_8_code 42 = .ok (.aload_n 0, 1) := by decide +kernel
theorem own_dapp11_43 : decode prog_36_method_8_code 43 = .ok (.invokevirtual 103, 3) := by decide +kernel
theorem own_pd_I_154 : parseMethodDescriptor "()I" = some ⟨[], some .int⟩ := by decide +kernel
theorem own_dapp11_46 : decode prog_36_method_8_code 46 = .ok (.tableswitch 66 0 12 #[76, 82, 88, 94, 100, 106, 122, 138, 154, 170, 186, 202, 221], 66) := by decide +kernel
theorem own_dapp11_248 : decode prog_36_method_8_code 248 = .ok (.iload_n 1, 1) := by decide +kernel
theorem own_dapp11_249 : decode prog_36_method_8_code 249 = .ok (.ifCond .eq 11, 3) := by decide +kernel
theorem own_dapp11_260 : decode prog_36_method_8_code 260 = .ok (.iconst 0, 1) := by decide +kernel
theorem own_dapp11_261 : decode prog_36_method_8_code 261 = .ok (.invokestatic 112, 3) := by decide +kernel
theorem own_pd_Z_I_244 : parseMethodDescriptor "(Z)I" = some ⟨[.boolean], some .int⟩ := by decide +kernel
theorem own_dapp11_264 : decode prog_36_method_8_code 264 = .ok (.goto 19, 3) := by decide +kernel
theorem own_dapp11_283 : decode prog_36_method_8_code 283 = .ok (.istore_n 3, 1) := by decide +kernel
theorem own_dapp11_284 : decode prog_36_method_8_code 284 = .ok (.iload_n 3, 1) := by decide +kernel
theorem own_dapp11_285 : decode prog_36_method_8_code 285 = .ok (.ireturn, 1) := by decide +kernel
theorem own_dapp11_252 : decode prog_36_method_8_code 252 = .ok (.iload_n 2, 1) := by decide +kernel
theorem own_dapp11_253 : decode prog_36_method_8_code 253 = .ok (.ifCond .eq 7, 3) := by decide +kernel
theorem own_dapp11_256 : decode prog_36_method_8_code 256 = .ok (.iconst 1, 1) := by decide +kernel
theorem own_dapp11_257 : decode prog_36_method_8_code 257 = .ok (.goto 4, 3) := by decide +kernel
theorem own_efapp11 (m : MethodId) (o0 : Addr) (p1 : Int32) (p2 : Int32) : entryFrame m #[(.ref o0), (.int p1), (.int p2)] 4 = mkF m 0 #[.val (.ref o0), .val (.int p1), .val (.int p2), .unset] [] := by first | (simp [entryFrame, mkF, argsToLocals, Value.category]; done) | rfl
def own_fapp11 (p1 : Int32) (p2 : Int32) : Int32 := (if p2 = (0 : Int32) then (if p1 = (0 : Int32) then (own_f3 (0 : Int32)) else (own_f3 (0 : Int32))) else (if p1 = (0 : Int32) then (own_f3 (0 : Int32)) else (own_f3 (1 : Int32))))
set_option maxRecDepth 65536 in
set_option maxHeartbeats 40000000 in
theorem own_mapp11 (l : Launch) (Z : State) (a0 : Array Value) (hw : ∀ d ∈ tables_1, d.before a0 Z = true) (ws : List Jvm.Cond) (o0 : Addr) (p1 : Int32) (p2 : Int32) (s_BinaryOperator_DIVIDE : Addr) (s_BinaryOperator_REMAINDER : Addr) (h0 : Heap) (n0 : Nat) (Z0 : n0 ≤ h0.size) (E_o0 : Exa Z h0 o0 "com/example/interleaving_explorer/interleavingexplorer/lang/BinaryOperator") (F_o0_ordinal : Fld Z h0 o0 "java/lang/Enum" "ordinal" "I" (.int (11 : Int32))) (S_BinaryOperator_DIVIDE : Sta Z h0 "com/example/interleaving_explorer/interleavingexplorer/lang/BinaryOperator" "DIVIDE" "Lcom/example/interleaving_explorer/interleavingexplorer/lang/BinaryOperator;" (.ref s_BinaryOperator_DIVIDE)) (S_BinaryOperator_REMAINDER : Sta Z h0 "com/example/interleaving_explorer/interleavingexplorer/lang/BinaryOperator" "REMAINDER" "Lcom/example/interleaving_explorer/interleavingexplorer/lang/BinaryOperator;" (.ref s_BinaryOperator_REMAINDER)) (ne_o0_s_BinaryOperator_DIVIDE : o0 ≠ s_BinaryOperator_DIVIDE) (ne_o0_s_BinaryOperator_REMAINDER : o0 ≠ s_BinaryOperator_REMAINDER) :
    own_Met l Z (⟨"com/example/interleaving_explorer/interleavingexplorer/lang/BinaryOperator", "apply", "(II)I"⟩ : MethodName) prog_36_method_8_code 4 (some .int) ws ({ frames := 1, cells := 0, slots := 0, locals := 12 } : Room) #[(.ref o0), (.int p1), (.int p2)] h0 (fun (v : Option Value) (h : Heap) (L : List Loc) => v = some (.int (own_fapp11 p1 p2)) ∧ Fr n0 L ∧ h = h0) := by
  refine own_enter (plainFor_of_name own_pn_com_example_interleaving_explorer_interleavingexplorer_lang_BinaryOperator) ?_
  intro p e s m below meth c s₁ P hx hby hml hrt hlk hown hnm hZ X0 e0 hP
  have N0 := Fr.nil n0
  have K0 := Keep.refl h0 []
  have hml' : c.maxLocals = 4 := hml
  refine own_cast (own_efapp11 m o0 p1 p2) ?_
  show own_End p e below P (s₁.setTop (mkF m 0 #[.val (.ref o0), .val (.int p1), .val (.int p2), .unset] []))
  refine own_st (fun _ => XS.iloadN X0.here hx rfl (hb hby own_dapp11_0) rfl) ?_
  show own_End p e below P (s₁.setTop (mkF m 1 #[.val (.ref o0), .val (.int p1), .val (.int p2), .unset] [(.int p2)]))
  by_cases hc1 : p2 = (0 : Int32)
  · refine own_st (fun _ => XS.ifNo X0.here hx rfl (hb hby own_dapp11_1) rfl ((if0 _ _).trans (teq hc1).2)) ?_
    show own_End p e below P (s₁.setTop (mkF m 4 #[.val (.ref o0), .val (.int p1), .val (.int p2), .unset] []))
    refine own_st (fun _ => XS.aloadN X0.here hx rfl (hb hby own_dapp11_4) rfl rfl) ?_
    show own_End p e below P (s₁.setTop (mkF m 5 #[.val (.ref o0), .val (.int p1), .val (.int p2), .unset] [(.ref o0)]))
    obtain ⟨T2, X2, e2, st2⟩ := getS2 X0 hx hZ hown (host := "") (Or.inl (hw _ (List.mem_of_getElem? (i := 56) rfl))) Via.refl e0 S_BinaryOperator_DIVIDE (g := (mkF m 5 #[.val (.ref o0), .val (.int p1), .val (.int p2), .unset] [(.ref o0)])) rfl (hb hby own_dapp11_5)
    refine own_st (fun _ => st2 _) ?_
    show own_End p e below P (T2.setTop (mkF m 8 #[.val (.ref o0), .val (.int p1), .val (.int p2), .unset] [(.ref s_BinaryOperator_DIVIDE), (.ref o0)]))
    refine own_st (fun _ => Jvm.RoadKit.acmp (g := (mkF m 8 #[.val (.ref o0), .val (.int p1), .val (.int p2), .unset] [(.ref s_BinaryOperator_DIVIDE), (.ref o0)])) X2 hx rfl rfl rfl (pc0 := 8) (pc' := 21) (same := false) rfl (hb hby own_dapp11_8) rfl (decide_eq_false fun q => ne_o0_s_BinaryOperator_DIVIDE (Value.ref.inj q)) (by decide) (by decide)) ?_
    show own_End p e below P (T2.setTop (mkF m 21 #[.val (.ref o0), .val (.int p1), .val (.int p2), .unset] []))
    refine own_st (fun _ => XS.iloadN X2.here hx rfl (hb hby own_dapp11_21) rfl) ?_
    show own_End p e below P (T2.setTop (mkF m 22 #[.val (.ref o0), .val (.int p1), .val (.int p2), .unset] [(.int p2)]))
    refine own_st (fun _ => XS.ifNo X2.here hx rfl (hb hby own_dapp11_22) rfl ((if0 _ _).trans (teq hc1).2)) ?_
    show own_End p e below P (T2.setTop (mkF m 25 #[.val (.ref o0), .val (.int p1), .val (.int p2), .unset] []))
    refine own_st (fun _ => XS.aloadN X2.here hx rfl (hb hby own_dapp11_25) rfl rfl) ?_
    show own_End p e below P (T2.setTop (mkF m 26 #[.val (.ref o0), .val (.int p1), .val (.int p2), .unset] [(.ref o0)]))
    obtain ⟨T3, X3, e3, st3⟩ := getS2 X2 hx hZ hown (host := "") (Or.inl (hw _ (List.mem_of_getElem? (i := 57) rfl))) Via.refl e2 S_BinaryOperator_REMAINDER (g := (mkF m 26 #[.val (.ref o0), .val (.int p1), .val (.int p2), .unset] [(.ref o0)])) rfl (hb hby own_dapp11_26)
    refine own_st (fun _ => st3 _) ?_
    show own_End p e below P (T3.setTop (mkF m 29 #[.val (.ref o0), .val (.int p1), .val (.int p2), .unset] [(.ref s_BinaryOperator_REMAINDER), (.ref o0)]))
    refine own_st (fun _ => Jvm.RoadKit.acmp (g := (mkF m 29 #[.val (.ref o0), .val (.int p1), .val (.int p2), .unset] [(.ref s_BinaryOperator_REMAINDER), (.ref o0)])) X3 hx rfl rfl rfl (pc0 := 29) (pc' := 42) (same := false) rfl (hb hby own_dapp11_29) rfl (decide_eq_false fun q => ne_o0_s_BinaryOperator_REMAINDER (Value.ref.inj q)) (by decide) (by decide)) ?_
    show own_End p e below P (T3.setTop (mkF m 42 #[.val (.ref o0), .val (.int p1), .val (.int p2), .unset] []))
    refine own_st (fun _ => XS.aloadN X3.here hx rfl (hb hby own_dapp11_42) rfl rfl) ?_
    show own_End p e below P (T3.setTop (mkF m 43 #[.val (.ref o0), .val (.int p1), .val (.int p2), .unset] [(.ref o0)]))
    refine own_callU X3 hx hZ (x := (⟨"com/example/interleaving_explorer/interleavingexplorer/lang/BinaryOperator", "ordinal", "()I"⟩ : MethodName)) (y := (⟨"java/lang/Enum", "ordinal", "()I"⟩ : MethodName)) (owner := "java/lang/Enum") hown (hw _ (List.mem_of_getElem? (i := 23) rfl)) (hw _ (List.mem_of_getElem? (i := 24) rfl)) (hw _ (List.mem_of_getElem? (i := 25) rfl)) (by decide) (hw _ (List.mem_of_getElem? (i := 27) rfl)) (hw _ (List.mem_of_getElem? (i := 26) rfl)) (hw _ (List.mem_of_getElem? (i := 28) rfl)) (hw _ (List.mem_of_getElem? (i := 29) rfl)) E_o0 (own_mord11 l Z a0 hw [] o0  h0 n0 Z0 F_o0_ordinal) 0 (by decide) (by decide) e3 (by decide) (by decide) (g := (mkF m 43 #[.val (.ref o0), .val (.int p1), .val (.int p2), .unset] [(.ref o0)])) rfl (by rw [hml']; rfl) (argsL := []) (rest := []) rfl (lenOf own_pd_I_154 rfl) rfl (by show 2 * 0 + _ ≤ _; exact Nat.le_of_eq rfl) (hb hby own_dapp11_43) (fun r4 T4 L4 X4 hQ4 => ?_)
    obtain ⟨rfl, Nq4, eq4⟩ := hQ4
    have N4 := Fr.app N0 Nq4
    show own_End p e below P (T4.setTop (mkF m 46 #[.val (.ref o0), .val (.int p1), .val (.int p2), .unset] [(.int (11 : Int32))]))
    refine own_tsw X4 hx (pc := 46) (pc' := 248) (o := 202) (i := (11 : Int32)) (hb hby own_dapp11_46) (by decide +kernel) (by decide +kernel) (by decide) (by decide) ?_
    show own_End p e below P (T4.setTop (mkF m 248 #[.val (.ref o0), .val (.int p1), .val (.int p2), .unset] []))
    refine own_st (fun _ => XS.iloadN X4.here hx rfl (hb hby own_dapp11_248) rfl) ?_
    show own_End p e below P (T4.setTop (mkF m 249 #[.val (.ref o0), .val (.int p1), .val (.int p2), .unset] [(.int p1)]))
    by_cases hc5 : p1 = (0 : Int32)
    · refine own_st (fun _ => XS.ifYes X4.here hx rfl (pc0 := 249) (pc' := 260) rfl (hb hby own_dapp11_249) rfl ((if0 _ _).trans (teq hc5).1) (by decide) (by decide)) ?_
      show own_End p e below P (T4.setTop (mkF m 260 #[.val (.ref o0), .val (.int p1), .val (.int p2), .unset] []))
      refine own_st (fun _ => XS.iconst X4.here hx rfl (hb hby own_dapp11_260)) ?_
      show own_End p e below P (T4.setTop (mkF m 261 #[.val (.ref o0), .val (.int p1), .val (.int p2), .unset] [(.int (0 : Int32))]))
      refine own_callS X4 hx hZ (y := (⟨"com/example/interleaving_explorer/interleavingexplorer/lang/BinaryOperator", "fromBoolean", "(Z)I"⟩ : MethodName)) hown (hw _ (List.mem_of_getElem? (i := 32) rfl)) (hw _ (List.mem_of_getElem? (i := 33) rfl)) (hw _ (List.mem_of_getElem? (i := 6) rfl)) (hw _ (List.mem_of_getElem? (i := 34) rfl)) (by decide) (own_m3 l Z a0 hw [] (0 : Int32)  h0 n0 Z0 ) 0 (by decide) (by decide) eq4 (by decide) (by decide) (g := (mkF m 261 #[.val (.ref o0), .val (.int p1), .val (.int p2), .unset] [(.int (0 : Int32))])) rfl (by rw [hml']; rfl) (argsL := [(.int (0 : Int32))]) (rest := []) rfl (lenOf own_pd_Z_I_244 rfl) rfl (by show 2 * 0 + _ ≤ _; exact Nat.le_of_eq rfl) (hb hby own_dapp11_261) (fun r6 T6 L6 X6 hQ6 => ?_)
      obtain ⟨rfl, Nq6, eq6⟩ := hQ6
      have N6 := Fr.app N4 Nq6
      show own_End p e below P (T6.setTop (mkF m 264 #[.val (.ref o0), .val (.int p1), .val (.int p2), .unset] [(.int (own_f3 (0 : Int32)))]))
      refine own_st (fun _ => XS.goto X6.here hx rfl (pc0 := 264) (pc' := 283) rfl (hb hby own_dapp11_264) (by decide) (by decide)) ?_
      show own_End p e below P (T6.setTop (mkF m 283 #[.val (.ref o0), .val (.int p1), .val (.int p2), .unset] [(.int (own_f3 (0 : Int32)))]))
      refine own_st (fun _ => XS.istoreN X6.here hx rfl (hb hby own_dapp11_283) rfl (l' := #[.val (.ref o0), .val (.int p1), .val (.int p2), .val (.int (own_f3 (0 : Int32)))]) rfl) ?_
      show own_End p e below P (T6.setTop (mkF m 284 #[.val (.ref o0), .val (.int p1), .val (.int p2), .val (.int (own_f3 (0 : Int32)))] []))
      refine own_st (fun _ => XS.iloadN X6.here hx rfl (hb hby own_dapp11_284) rfl) ?_
      show own_End p e below P (T6.setTop (mkF m 285 #[.val (.ref o0), .val (.int p1), .val (.int p2), .val (.int (own_f3 (0 : Int32)))] [(.int (own_f3 (0 : Int32)))]))
      refine own_retI X6 hx hlk hP hrt (hb hby own_dapp11_285) (by decide) (by decide) ⟨congrArg (fun z => some (Value.int z)) ?_, N6, eq6⟩
      exact (show own_fapp11 p1 p2 = (own_f3 (0 : Int32)) from (if_pos hc1).trans ((if_pos hc5).trans (rfl))).symm
    · refine own_st (fun _ => XS.ifNo X4.here hx rfl (hb hby own_dapp11_249) rfl ((if0 _ _).trans (feq hc5).1)) ?_
      show own_End p e below P (T4.setTop (mkF m 252 #[.val (.ref o0), .val (.int p1), .val (.int p2), .unset] []))
      refine own_st (fun _ => XS.iloadN X4.here hx rfl (hb hby own_dapp11_252) rfl) ?_
      show own_End p e below P (T4.setTop (mkF m 253 #[.val (.ref o0), .val (.int p1), .val (.int p2), .unset] [(.int p2)]))
      refine own_st (fun _ => XS.ifYes X4.here hx rfl (pc0 := 253) (pc' := 260) rfl (hb hby own_dapp11_253) rfl ((if0 _ _).trans (teq hc1).1) (by decide) (by decide)) ?_
      show own_End p e below P (T4.setTop (mkF m 260 #[.val (.ref o0), .val (.int p1), .val (.int p2), .unset] []))
      refine own_st (fun _ => XS.iconst X4.here hx rfl (hb hby own_dapp11_260)) ?_
      show own_End p e below P (T4.setTop (mkF m 261 #[.val (.ref o0), .val (.int p1), .val (.int p2), .unset] [(.int (0 : Int32))]))
      refine own_callS X4 hx hZ (y := (⟨"com/example/interleaving_explorer/interleavingexplorer/lang/BinaryOperator", "fromBoolean", "(Z)I"⟩ : MethodName)) hown (hw _ (List.mem_of_getElem? (i := 32) rfl)) (hw _ (List.mem_of_getElem? (i := 33) rfl)) (hw _ (List.mem_of_getElem? (i := 6) rfl)) (hw _ (List.mem_of_getElem? (i := 34) rfl)) (by decide) (own_m3 l Z a0 hw [] (0 : Int32)  h0 n0 Z0 ) 0 (by decide) (by decide) eq4 (by decide) (by decide) (g := (mkF m 261 #[.val (.ref o0), .val (.int p1), .val (.int p2), .unset] [(.int (0 : Int32))])) rfl (by rw [hml']; rfl) (argsL := [(.int (0 : Int32))]) (rest := []) rfl (lenOf own_pd_Z_I_244 rfl) rfl (by show 2 * 0 + _ ≤ _; exact Nat.le_of_eq rfl) (hb hby own_dapp11_261) (fun r7 T7 L7 X7 hQ7 => ?_)
      obtain ⟨rfl, Nq7, eq7⟩ := hQ7
      have N7 := Fr.app N4 Nq7
      show own_End p e below P (T7.setTop (mkF m 264 #[.val (.ref o0), .val (.int p1), .val (.int p2), .unset] [(.int (own_f3 (0 : Int32)))]))
      refine own_st (fun _ => XS.goto X7.here hx rfl (pc0 := 264) (pc' := 283) rfl (hb hby own_dapp11_264) (by decide) (by decide)) ?_
      show own_End p e below P (T7.setTop (mkF m 283 #[.val (.ref o0), .val (.int p1), .val (.int p2), .unset] [(.int (own_f3 (0 : Int32)))]))
      refine own_st (fun _ => XS.istoreN X7.here hx rfl (hb hby own_dapp11_283) rfl (l' := #[.val (.ref o0), .val (.int p1), .val (.int p2), .val (.int (own_f3 (0 : Int32)))]) rfl) ?_
      show own_End p e below P (T7.setTop (mkF m 284 #[.val (.ref o0), .val (.int p1), .val (.int p2), .val (.int (own_f3 (0 : Int32)))] []))
      refine own_st (fun _ => XS.iloadN X7.here hx rfl (hb hby own_dapp11_284) rfl) ?_
      show own_End p e below P (T7.setTop (mkF m 285 #[.val (.ref o0), .val (.int p1), .val (.int p2), .val (.int (own_f3 (0 : Int32)))] [(.int (own_f3 (0 : Int32)))]))
      refine own_retI X7 hx hlk hP hrt (hb hby own_dapp11_285) (by decide) (by decide) ⟨congrArg (fun z => some (Value.int z)) ?_, N7, eq7⟩
      exact (show own_fapp11 p1 p2 = (own_f3 (0 : Int32)) from (if_pos hc1).trans ((if_neg hc5).trans (rfl))).symm
  · refine own_st (fun _ => XS.ifYes X0.here hx rfl (pc0 := 1) (pc' := 21) rfl (hb hby own_dapp11_1) rfl ((if0 _ _).trans (feq hc1).2) (by decide) (by decide)) ?_
    show own_End p e below P (s₁.setTop (mkF m 21 #[.val (.ref o0), .val (.int p1), .val (.int p2), .unset] []))
    refine own_st (fun _ => XS.iloadN X0.here hx rfl (hb hby own_dapp11_21) rfl) ?_
    show own_End p e below P (s₁.setTop (mkF m 22 #[.val (.ref o0), .val (.int p1), .val (.int p2), .unset] [(.int p2)]))
    refine own_st (fun _ => XS.ifYes X0.here hx rfl (pc0 := 22) (pc' := 42) rfl (hb hby own_dapp11_22) rfl ((if0 _ _).trans (feq hc1).2) (by decide) (by decide)) ?_
    show own_End p e below P (s₁.setTop (mkF m 42 #[.val (.ref o0), .val (.int p1), .val (.int p2), .unset] []))
    refine own_st (fun _ => XS.aloadN X0.here hx rfl (hb hby own_dapp11_42) rfl rfl) ?_
    show own_End p e below P (s₁.setTop (mkF m 43 #[.val (.ref o0), .val (.int p1), .val (.int p2), .unset] [(.ref o0)]))
    refine own_callU X0 hx hZ (x := (⟨"com/example/interleaving_explorer/interleavingexplorer/lang/BinaryOperator", "ordinal", "()I"⟩ : MethodName)) (y := (⟨"java/lang/Enum", "ordinal", "()I"⟩ : MethodName)) (owner := "java/lang/Enum") hown (hw _ (List.mem_of_getElem? (i := 23) rfl)) (hw _ (List.mem_of_getElem? (i := 24) rfl)) (hw _ (List.mem_of_getElem? (i := 25) rfl)) (by decide) (hw _ (List.mem_of_getElem? (i := 27) rfl)) (hw _ (List.mem_of_getElem? (i := 26) rfl)) (hw _ (List.mem_of_getElem? (i := 28) rfl)) (hw _ (List.mem_of_getElem? (i := 29) rfl)) E_o0 (own_mord11 l Z a0 hw [] o0  h0 n0 Z0 F_o0_ordinal) 0 (by decide) (by decide) e0 (by decide) (by decide) (g := (mkF m 43 #[.val (.ref o0), .val (.int p1), .val (.int p2), .unset] [(.ref o0)])) rfl (by rw [hml']; rfl) (argsL := []) (rest := []) rfl (lenOf own_pd_I_154 rfl) rfl (by show 2 * 0 + _ ≤ _; exact Nat.le_of_eq rfl) (hb hby own_dapp11_43) (fun r8 T8 L8 X8 hQ8 => ?_)
    obtain ⟨rfl, Nq8, eq8⟩ := hQ8
    have N8 := Fr.app N0 Nq8
    show own_End p e below P (T8.setTop (mkF m 46 #[.val (.ref o0), .val (.int p1), .val (.int p2), .unset] [(.int (11 : Int32))]))
    refine own_tsw X8 hx (pc := 46) (pc' := 248) (o := 202) (i := (11 : Int32)) (hb hby own_dapp11_46) (by decide +kernel) (by decide +kernel) (by decide) (by decide) ?_
    show own_End p e below P (T8.setTop (mkF m 248 #[.val (.ref o0), .val (.int p1), .val (.int p2), .unset] []))
    refine own_st (fun _ => XS.iloadN X8.here hx rfl (hb hby own_dapp11_248) rfl) ?_
    show own_End p e below P (T8.setTop (mkF m 249 #[.val (.ref o0), .val (.int p1), .val (.int p2), .unset] [(.int p1)]))
    by_cases hc9 : p1 = (0 : Int32)
    · refine own_st (fun _ => XS.ifYes X8.here hx rfl (pc0 := 249) (pc' := 260) rfl (hb hby own_dapp11_249) rfl ((if0 _ _).trans (teq hc9).1) (by decide) (by decide)) ?_
      show own_End p e below P (T8.setTop (mkF m 260 #[.val (.ref o0), .val (.int p1), .val (.int p2), .unset] []))
      refine own_st (fun _ => XS.iconst X8.here hx rfl (hb hby own_dapp11_260)) ?_
      show own_End p e below P (T8.setTop (mkF m 261 #[.val (.ref o0), .val (.int p1), .val (.int p2), .unset] [(.int (0 : Int32))]))
      refine own_callS X8 hx hZ (y := (⟨"com/example/interleaving_explorer/interleavingexplorer/lang/BinaryOperator", "fromBoolean", "(Z)I"⟩ : MethodName)) hown (hw _ (List.mem_of_getElem? (i := 32) rfl)) (hw _ (List.mem_of_getElem? (i := 33) rfl)) (hw _ (List.mem_of_getElem? (i := 6) rfl)) (hw _ (List.mem_of_getElem? (i := 34) rfl)) (by decide) (own_m3 l Z a0 hw [] (0 : Int32)  h0 n0 Z0 ) 0 (by decide) (by decide) eq8 (by decide) (by decide) (g := (mkF m 261 #[.val (.ref o0), .val (.int p1), .val (.int p2), .unset] [(.int (0 : Int32))])) rfl (by rw [hml']; rfl) (argsL := [(.int (0 : Int32))]) (rest := []) rfl (lenOf own_pd_Z_I_244 rfl) rfl (by show 2 * 0 + _ ≤ _; exact Nat.le_of_eq rfl) (hb hby own_dapp11_261) (fun r10 T10 L10 X10 hQ10 => ?_)
      obtain ⟨rfl, Nq10, eq10⟩ := hQ10
      have N10 := Fr.app N8 Nq10
      show own_End p e below P (T10.setTop (mkF m 264 #[.val (.ref o0), .val (.int p1), .val (.int p2), .unset] [(.int (own_f3 (0 : Int32)))]))
      refine own_st (fun _ => XS.goto X10.here hx rfl (pc0 := 264) (pc' := 283) rfl (hb hby own_dapp11_264) (by decide) (by decide)) ?_
      show own_End p e below P (T10.setTop (mkF m 283 #[.val (.ref o0), .val (.int p1), .val (.int p2), .unset] [(.int (own_f3 (0 : Int32)))]))
      refine own_st (fun _ => XS.istoreN X10.here hx rfl (hb hby own_dapp11_283) rfl (l' := #[.val (.ref o0), .val (.int p1), .val (.int p2), .val (.int (own_f3 (0 : Int32)))]) rfl) ?_
      show own_End p e below P (T10.setTop (mkF m 284 #[.val (.ref o0), .val (.int p1), .val (.int p2), .val (.int (own_f3 (0 : Int32)))] []))
      refine own_st (fun _ => XS.iloadN X10.here hx rfl (hb hby own_dapp11_284) rfl) ?_
      show own_End p e below P (T10.setTop (mkF m 285 #[.val (.ref o0), .val (.int p1), .val (.int p2), .val (.int (own_f3 (0 : Int32)))] [(.int (own_f3 (0 : Int32)))]))
      refine own_retI X10 hx hlk hP hrt (hb hby own_dapp11_285) (by decide) (by decide) ⟨congrArg (fun z => some (Value.int z)) ?_, N10, eq10⟩
      exact (show own_fapp11 p1 p2 = (own_f3 (0 : Int32)) from (if_neg hc1).trans ((if_pos hc9).trans (rfl))).symm
    · refine own_st (fun _ => XS.ifNo X8.here hx rfl (hb hby own_dapp11_249) rfl ((if0 _ _).trans (feq hc9).1)) ?_
      show own_End p e below P (T8.setTop (mkF m 252 #[.val (.ref o0), .val (.int p1), .val (.int p2), .unset] []))
      refine own_st (fun _ => XS.iloadN X8.here hx rfl (hb hby own_dapp11_252) rfl) ?_
      show own_End p e below P (T8.setTop (mkF m 253 #[.val (.ref o0), .val (.int p1), .val (.int p2), .unset] [(.int p2)]))
      refine own_st (fun _ => XS.ifNo X8.here hx rfl (hb hby own_dapp11_253) rfl ((if0 _ _).trans (feq hc1).1)) ?_
      show own_End p e below P (T8.setTop (mkF m 256 #[.val (.ref o0), .val (.int p1), .val (.int p2), .unset] []))
      refine own_st (fun _ => XS.iconst X8.here hx rfl (hb hby own_dapp11_256)) ?_
      show own_End p e below P (T8.setTop (mkF m 257 #[.val (.ref o0), .val (.int p1), .val (.int p2), .unset] [(.int (1 : Int32))]))
      refine own_st (fun _ => XS.goto X8.here hx rfl (pc0 := 257) (pc' := 261) rfl (hb hby own_dapp11_257) (by decide) (by decide)) ?_
      show own_End p e below P (T8.setTop (mkF m 261 #[.val (.ref o0), .val (.int p1), .val (.int p2), .unset] [(.int (1 : Int32))]))
      refine own_callS X8 hx hZ (y := (⟨"com/example/interleaving_explorer/interleavingexplorer/lang/BinaryOperator", "fromBoolean", "(Z)I"⟩ : MethodName)) hown (hw _ (List.mem_of_getElem? (i := 32) rfl)) (hw _ (List.mem_of_getElem? (i := 33) rfl)) (hw _ (List.mem_of_getElem? (i := 6) rfl)) (hw _ (List.mem_of_getElem? (i := 34) rfl)) (by decide) (own_m3 l Z a0 hw [] (1 : Int32)  h0 n0 Z0 ) 0 (by decide) (by decide) eq8 (by decide) (by decide) (g := (mkF m 261 #[.val (.ref o0), .val (.int p1), .val (.int p2), .unset] [(.int (1 : Int32))])) rfl (by rw [hml']; rfl) (argsL := [(.int (1 : Int32))]) (rest := []) rfl (lenOf own_pd_Z_I_244 rfl) rfl (by show 2 * 0 + _ ≤ _; exact Nat.le_of_eq rfl) (hb hby own_dapp11_261) (fun r11 T11 L11 X11 hQ11 => ?_)
      obtain ⟨rfl, Nq11, eq11⟩ := hQ11
      have N11 := Fr.app N8 Nq11
      show own_End p e below P (T11.setTop (mkF m 264 #[.val (.ref o0), .val (.int p1), .val (.int p2), .unset] [(.int (own_f3 (1 : Int32)))]))
      refine own_st (fun _ => XS.goto X11.here hx rfl (pc0 := 264) (pc' := 283) rfl (hb hby own_dapp11_264) (by decide) (by decide)) ?_
      show own_End p e below P (T11.setTop (mkF m 283 #[.val (.ref o0), .val (.int p1), .val (.int p2), .unset] [(.int (own_f3 (1 : Int32)))]))
      refine own_st (fun _ => XS.istoreN X11.here hx rfl (hb hby own_dapp11_283) rfl (l' := #[.val (.ref o0), .val (.int p1), .val (.int p2), .val (.int (own_f3 (1 : Int32)))]) rfl) ?_
      show own_End p e below P (T11.setTop (mkF m 284 #[.val (.ref o0), .val (.int p1), .val (.int p2), .val (.int (own_f3 (1 : Int32)))] []))
      refine own_st (fun _ => XS.iloadN X11.here hx rfl (hb hby own_dapp11_284) rfl) ?_
      show own_End p e below P (T11.setTop (mkF m 285 #[.val (.ref o0), .val (.int p1), .val (.int p2), .val (.int (own_f3 (1 : Int32)))] [(.int (own_f3 (1 : Int32)))]))
      refine own_retI X11 hx hlk hP hrt (hb hby own_dapp11_285) (by decide) (by decide) ⟨congrArg (fun z => some (Value.int z)) ?_, N11, eq11⟩
      exact (show own_fapp11 p1 p2 = (own_f3 (1 : Int32)) from (if_neg hc1).trans ((if_neg hc9).trans (rfl))).symm
theorem own_dord12_0 : decode jdk_37_method_2_code 0 = .ok (.aload_n 0, 1) := by decide +kernel
theorem own_dord12_1 : decode jdk_37_method_2_code 1 = .ok (.getfield 7, 3) := by decide +kernel
theorem own_dord12_4 : decode jdk_37_method_2_code 4 = .ok (.ireturn, 1) := by decide +kernel
theorem own_eford12 (m : MethodId) (o0 : Addr) : entryFrame m #[(.ref o0)] 1 = mkF m 0 #[.val (.ref o0)] [] := by first | (simp [entryFrame, mkF, argsToLocals, Value.category]; done) | rfl
def own_ford12  : Int32 := (12 : Int32)
set_option maxRecDepth 65536 in
set_option maxHeartbeats 40000000 in
theorem own_mord12 (l : Launch) (Z : State) (a0 : Array Value) (hw : ∀ d ∈ tables_1, d.before a0 Z = true) (ws : List Jvm.Cond) (o0 : Addr)  (h0 : Heap) (n0 : Nat) (Z0 : n0 ≤ h0.size) (F_o0_ordinal : Fld Z h0 o0 "java/lang/Enum" "ordinal" "I" (.int (12 : Int32))) :
    own_Met l Z (⟨"java/lang/Enum", "ordinal", "()I"⟩ : MethodName) jdk_37_method_2_code 1 (some .int) ws ({ frames := 0, cells := 0, slots := 0, locals := 0 } : Room) #[(.ref o0)] h0 (fun (v : Option Value) (h : Heap) (L : List Loc) => v = some (.int (own_ford12 )) ∧ Fr n0 L ∧ h = h0) := by
  refine own_enter (plainFor_of_name own_pn_java_lang_Enum) ?_
  intro p e s m below meth c s₁ P hx hby hml hrt hlk hown hnm hZ X0 e0 hP
  have N0 := Fr.nil n0
  have K0 := Keep.refl h0 []
  have hml' : c.maxLocals = 1 := hml
  refine own_cast (own_eford12 m o0) ?_
  show own_End p e below P (s₁.setTop (mkF m 0 #[.val (.ref o0)] []))
  refine own_st (fun _ => XS.aloadN X0.here hx rfl (hb hby own_dord12_0) rfl rfl) ?_
  show own_End p e below P (s₁.setTop (mkF m 1 #[.val (.ref o0)] [(.ref o0)]))
  obtain ⟨T1, X1, e1, st1⟩ := getF X0 hx hZ hown (host := "") (Or.inl (hw _ (List.mem_of_getElem? (i := 30) rfl))) Via.refl e0 F_o0_ordinal (g := (mkF m 1 #[.val (.ref o0)] [(.ref o0)])) rfl rfl (hb hby own_dord12_1)
  refine own_st (fun _ => st1 _) ?_
  show own_End p e below P (T1.setTop (mkF m 4 #[.val (.ref o0)] [(.int (12 : Int32))]))
  refine own_retI X1 hx hlk hP hrt (hb hby own_dord12_4) (by decide) (by decide) ⟨congrArg (fun z => some (Value.int z)) ?_, N0, e1⟩
  exact (show own_ford12  = (12 : Int32) from rfl).symm
theorem own_dapp12_0 : decode prog_36_method_8_code 0 = .ok (.iload_n 2, 1) := by decide +kernel
theorem own_dapp12_1 : decode prog_36_method_8_code 1 = .ok (.ifCond .ne 20, 3) := by decide +kernel
theorem own_dapp12_4 : decode prog_36_method_8_code 4 = .ok (.aload_n 0, 1) := by decide +kernel
theorem own_dapp12_5 : decode prog_36_method_8_code 5 = .ok (.getstatic 7, 3) := by decide +kernel
theorem own_dapp12_8 : decode prog_36_method_8_code 8 = .ok (.if_acmp .ne 13, 3) := by decide +kernel
theorem own_dapp12_21 : decode prog_36_method_8_code 21 = .ok (.iload_n 2, 1) := by decide +kernel
theorem own_dapp12_22 : decode prog_36_method_8_code 22 = .ok (.ifCond .ne 20, 3) := by decide +kernel
theorem own_dapp12_25 : decode prog_36_method_8_code 25 = .ok (.aload_n 0, 1) := by decide +kernel
theorem own_dapp12_26 : decode prog_36_method_8_code 26 = .ok (.getstatic 10, 3) := by decide +kernel
theorem own_dapp12_29 : decode prog_36_method_8_code 29 = .ok (.if_acmp .ne 13, 3) := by decide +kernel
theorem own_dapp12_42 : decode prog_36_method_8_code 42 = .ok (.aload_n 0, 1) := by decide +kernel
theorem own_dapp12_43 : decode prog_36_method_8_code 43 = .ok (.invokevirtual 103, 3) := by decide +kernel
theorem own_dapp12_46 : decode prog_36_method_8_code 46 = .ok (.tableswitch 66 0 12 #[76, 82, 88, 94, 100, 106, 122, 138, 154, 170, 186, 202, 221], 66) := by decide +kernel
theorem own_dapp12_267 : decode prog_36_method_8_code 267 = .ok (.iload_n 1, 1) := by decide +kernel
theorem own_dapp12_268 : decode prog_36_method_8_code 268 = .ok (.ifCond .ne 7, 3) := by decide +kernel
theorem own_dapp12_271 : decode prog_36_method_8_code 271 = .ok (.iload_n 2, 1) := by decide +kernel
theorem own_dapp12_272 : decode prog_36_method_8_code 272 = .ok (.ifCond .eq 7, 3) := by decide +kernel
theorem own_dapp12_279 : decode prog_36_method_8_code 279 = .ok (.iconst 0, 1) := by decide +kernel
theorem own_dapp12_280 : decode prog_36_method_8_code 280 = .ok (.invokestatic 112, 3) := by decide +kernel
theorem own_dapp12_283 : decode prog_36_method_8_code 283 = .ok (.istore_n 3, 1) := by decide +kernel
theorem own_dapp12_284 : decode prog_36_method_8_code 284 = .ok (.iload_n 3, 1) := by decide +kernel
theorem own_dapp12_285 : decode prog_36_method_8_code 285 = .ok (.ireturn, 1) := by decide +kernel
theorem own_dapp12_275 : decode prog_36_method_8_code 275 = .ok (.iconst 1, 1) := by decide +kernel
theorem own_dapp12_276 : decode prog_36_method_8_code 276 = .ok (.goto 4, 3) := by decide +kernel
theorem own_efapp12 (m : MethodId) (o0 : Addr) (p1 : Int32) (p2 : Int32) : entryFrame m #[(.ref o0), (.int p1), (.int p2)] 4 = mkF m 0 #[.val (.ref o0), .val (.int p1), .val (.int p2), .unset] [] := by first | (simp [entryFrame, mkF, argsToLocals, Value.category]; done) | rfl
def own_fapp12 (p1 : Int32) (p2 : Int32) : Int32 := (if p2 = (0 : Int32) then (if p1 = (0 : Int32) then (own_f3 (0 : Int32)) else (own_f3 (1 : Int32))) else (if p1 = (0 : Int32) then (own_f3 (1 : Int32)) else (own_f3 (1 : Int32))))
set_option maxRecDepth 65536 in
set_option maxHeartbeats 40000000 in
theorem own_mapp12 (l : Launch) (Z : State) (a0 : Array Value) (hw : ∀ d ∈ tables_1, d.before a0 Z = true) (ws : List Jvm.Cond) (o0 : Addr) (p1 : Int32) (p2 : Int32) (s_BinaryOperator_DIVIDE : Addr) (s_BinaryOperator_REMAINDER : Addr) (h0 : Heap) (n0 : Nat) (Z0 : n0 ≤ h0.size) (E_o0 : Exa Z h0 o0 "com/example/interleaving_explorer/interleavingexplorer/lang/BinaryOperator") (F_o0_ordinal : Fld Z h0 o0 "java/lang/Enum" "ordinal" "I" (.int (12 : Int32))) (S_BinaryOperator_DIVIDE : Sta Z h0 "com/example/interleaving_explorer/interleavingexplorer/lang/BinaryOperator" "DIVIDE" "Lcom/example/interleaving_explorer/interleavingexplorer/lang/BinaryOperator;" (.ref s_BinaryOperator_DIVIDE)) (S_BinaryOperator_REMAINDER : Sta Z h0 "com/example/interleaving_explorer/interleavingexplorer/lang/BinaryOperator" "REMAINDER" "Lcom/example/interleaving_explorer/interleavingexplorer/lang/BinaryOperator;" (.ref s_BinaryOperator_REMAINDER)) (ne_o0_s_BinaryOperator_DIVIDE : o0 ≠ s_BinaryOperator_DIVIDE) (ne_o0_s_BinaryOperator_REMAINDER : o0 ≠ s_BinaryOperator_REMAINDER) :
    own_Met l Z (⟨"com/example/interleaving_explorer/interleavingexplorer/lang/BinaryOperator", "apply", "(II)I"⟩ : MethodName) prog_36_method_8_code 4 (some .int) ws ({ frames := 1, cells := 0, slots := 0, locals := 12 } : Room) #[(.ref o0), (.int p1), (.int p2)] h0 (fun (v : Option Value) (h : Heap) (L : List Loc) => v = some (.int (own_fapp12 p1 p2)) ∧ Fr n0 L ∧ h = h0) := by
  refine own_enter (plainFor_of_name own_pn_com_example_interleaving_explorer_interleavingexplorer_lang_BinaryOperator) ?_
  intro p e s m below meth c s₁ P hx hby hml hrt hlk hown hnm hZ X0 e0 hP
  have N0 := Fr.nil n0
  have K0 := Keep.refl h0 []
  have hml' : c.maxLocals = 4 := hml
  refine own_cast (own_efapp12 m o0 p1 p2) ?_
  show own_End p e below P (s₁.setTop (mkF m 0 #[.val (.ref o0), .val (.int p1), .val (.int p2), .unset] []))
  refine own_st (fun _ => XS.iloadN X0.here hx rfl (hb hby own_dapp12_0) rfl) ?_
  show own_End p e below P (s₁.setTop (mkF m 1 #[.val (.ref o0), .val (.int p1), .val (.int p2), .unset] [(.int p2)]))
  by_cases hc1 : p2 = (0 : Int32)
  · refine own_st (fun _ => XS.ifNo X0.here hx rfl (hb hby own_dapp12_1) rfl ((if0 _ _).trans (teq hc1).2)) ?_
    show own_End p e below P (s₁.setTop (mkF m 4 #[.val (.ref o0), .val (.int p1), .val (.int p2), .unset] []))
    refine own_st (fun _ => XS.aloadN X0.here hx rfl (hb hby own_dapp12_4) rfl rfl) ?_
    show own_End p e below P (s₁.setTop (mkF m 5 #[.val (.ref o0), .val (.int p1), .val (.int p2), .unset] [(.ref o0)]))
    obtain ⟨T2, X2, e2, st2⟩ := getS2 X0 hx hZ hown (host := "") (Or.inl (hw _ (List.mem_of_getElem? (i := 56) rfl))) Via.refl e0 S_BinaryOperator_DIVIDE (g := (mkF m 5 #[.val (.ref o0), .val (.int p1), .val (.int p2), .unset] [(.ref o0)])) rfl (hb hby own_dapp12_5)
    refine own_st (fun _ => st2 _) ?_
    show own_End p e below P (T2.setTop (mkF m 8 #[.val (.ref o0), .val (.int p1), .val (.int p2), .unset] [(.ref s_BinaryOperator_DIVIDE), (.ref o0)]))
    refine own_st (fun _ => Jvm.RoadKit.acmp (g := (mkF m 8 #[.val (.ref o0), .val (.int p1), .val (.int p2), .unset] [(.ref s_BinaryOperator_DIVIDE), (.ref o0)])) X2 hx rfl rfl rfl (pc0 := 8) (pc' := 21) (same := false) rfl (hb hby own_dapp12_8) rfl (decide_eq_false fun q => ne_o0_s_BinaryOperator_DIVIDE (Value.ref.inj q)) (by decide) (by decide)) ?_
    show own_End p e below P (T2.setTop (mkF m 21 #[.val (.ref o0), .val (.int p1), .val (.int p2), .unset] []))
    refine own_st (fun _ => XS.iloadN X2.here hx rfl (hb hby own_dapp12_21) rfl) ?_
    show own_End p e below P (T2.setTop (mkF m 22 #[.val (.ref o0), .val (.int p1), .val (.int p2), .unset] [(.int p2)]))
    refine own_st (fun _ => XS.ifNo X2.here hx rfl (hb hby own_dapp12_22) rfl ((if0 _ _).trans (teq hc1).2)) ?_
    show own_End p e below P (T2.setTop (mkF m 25 #[.val (.ref o0), .val (.int p1), .val (.int p2), .unset] []))
    refine own_st (fun _ => XS.aloadN X2.here hx rfl (hb hby own_dapp12_25) rfl rfl) ?_
    show own_End p e below P (T2.setTop (mkF m 26 #[.val (.ref o0), .val (.int p1), .val (.int p2), .unset] [(.ref o0)]))
    obtain ⟨T3, X3, e3, st3⟩ := getS2 X2 hx hZ hown (host := "") (Or.inl (hw _ (List.mem_of_getElem? (i := 57) rfl))) Via.refl e2 S_BinaryOperator_REMAINDER (g := (mkF m 26 #[.val (.ref o0), .val (.int p1), .val (.int p2), .unset] [(.ref o0)])) rfl (hb hby own_dapp12_26)
    refine own_st (fun _ => st3 _) ?_
    show own_End p e below P (T3.setTop (mkF m 29 #[.val (.ref o0), .val (.int p1), .val (.int p2), .unset] [(.ref s_BinaryOperator_REMAINDER), (.ref o0)]))
    refine own_st (fun _ => Jvm.RoadKit.acmp (g := (mkF m 29 #[.val (.ref o0), .val (.int p1), .val (.int p2), .unset] [(.ref s_BinaryOperator_REMAINDER), (.ref o0)])) X3 hx rfl rfl rfl (pc0 := 29) (pc' := 42) (same := false) rfl (hb hby own_dapp12_29) rfl (decide_eq_false fun q => ne_o0_s_BinaryOperator_REMAINDER (Value.ref.inj q)) (by decide) (by decide)) ?_
    show own_End p e below P (T3.setTop (mkF m 42 #[.val (.ref o0), .val (.int p1), .val (.int p2), .unset] []))
    refine own_st (fun _ => XS.aloadN X3.here hx rfl (hb hby own_dapp12_42) rfl rfl) ?_
    show own_End p e below P (T3.setTop (mkF m 43 #[.val (.ref o0), .val (.int p1), .val (.int p2), .unset] [(.ref o0)]))
    refine own_callU X3 hx hZ (x := (⟨"com/example/interleaving_explorer/interleavingexplorer/lang/BinaryOperator", "ordinal", "()I"⟩ : MethodName)) (y := (⟨"java/lang/Enum", "ordinal", "()I"⟩ : MethodName)) (owner := "java/lang/Enum") hown (hw _ (List.mem_of_getElem? (i := 23) rfl)) (hw _ (List.mem_of_getElem? (i := 24) rfl)) (hw _ (List.mem_of_getElem? (i := 25) rfl)) (by decide) (hw _ (List.mem_of_getElem? (i := 27) rfl)) (hw _ (List.mem_of_getElem? (i := 26) rfl)) (hw _ (List.mem_of_getElem? (i := 28) rfl)) (hw _ (List.mem_of_getElem? (i := 29) rfl)) E_o0 (own_mord12 l Z a0 hw [] o0  h0 n0 Z0 F_o0_ordinal) 0 (by decide) (by decide) e3 (by decide) (by decide) (g := (mkF m 43 #[.val (.ref o0), .val (.int p1), .val (.int p2), .unset] [(.ref o0)])) rfl (by rw [hml']; rfl) (argsL := []) (rest := []) rfl (lenOf own_pd_I_154 rfl) rfl (by show 2 * 0 + _ ≤ _; exact Nat.le_of_eq rfl) (hb hby own_dapp12_43) (fun r4 T4 L4 X4 hQ4 => ?_)
    obtain ⟨rfl, Nq4, eq4⟩ := hQ4
    have N4 := Fr.app N0 Nq4
    show own_End p e below P (T4.setTop (mkF m 46 #[.val (.ref o0), .val (.int p1), .val (.int p2), .unset] [(.int (12 : Int32))]))
    refine own_tsw X4 hx (pc := 46) (pc' := 267) (o := 221) (i := (12 : Int32)) (hb hby own_dapp12_46) (by decide +kernel) (by decide +kernel) (by decide) (by decide) ?_
    show own_End p e below P (T4.setTop (mkF m 267 #[.val (.ref o0), .val (.int p1), .val (.int p2), .unset] []))
    refine own_st (fun _ => XS.iloadN X4.here hx rfl (hb hby own_dapp12_267) rfl) ?_
    show own_End p e below P (T4.setTop (mkF m 268 #[.val (.ref o0), .val (.int p1), .val (.int p2), .unset] [(.int p1)]))
    by_cases hc5 : p1 = (0 : Int32)
    · refine own_st (fun _ => XS.ifNo X4.here hx rfl (hb hby own_dapp12_268) rfl ((if0 _ _).trans (teq hc5).2)) ?_
      show own_End p e below P (T4.setTop (mkF m 271 #[.val (.ref o0), .val (.int p1), .val (.int p2), .unset] []))
      refine own_st (fun _ => XS.iloadN X4.here hx rfl (hb hby own_dapp12_271) rfl) ?_
      show own_End p e below P (T4.setTop (mkF m 272 #[.val (.ref o0), .val (.int p1), .val (.int p2), .unset] [(.int p2)]))
      refine own_st (fun _ => XS.ifYes X4.here hx rfl (pc0 := 272) (pc' := 279) rfl (hb hby own_dapp12_272) rfl ((if0 _ _).trans (teq hc1).1) (by decide) (by decide)) ?_
      show own_End p e below P (T4.setTop (mkF m 279 #[.val (.ref o0), .val (.int p1), .val (.int p2), .unset] []))
      refine own_st (fun _ => XS.iconst X4.here hx rfl (hb hby own_dapp12_279)) ?_
      show own_End p e below P (T4.setTop (mkF m 280 #[.val (.ref o0), .val (.int p1), .val (.int p2), .unset] [(.int (0 : Int32))]))
      refine own_callS X4 hx hZ (y := (⟨"com/example/interleaving_explorer/interleavingexplorer/lang/BinaryOperator", "fromBoolean", "(Z)I"⟩ : MethodName)) hown (hw _ (List.mem_of_getElem? (i := 32) rfl)) (hw _ (List.mem_of_getElem? (i := 33) rfl)) (hw _ (List.mem_of_getElem? (i := 6) rfl)) (hw _ (List.mem_of_getElem? (i := 34) rfl)) (by decide) (own_m3 l Z a0 hw [] (0 : Int32)  h0 n0 Z0 ) 0 (by decide) (by decide) eq4 (by decide) (by decide) (g := (mkF m 280 #[.val (.ref o0), .val (.int p1), .val (.int p2), .unset] [(.int (0 : Int32))])) rfl (by rw [hml']; rfl) (argsL := [(.int (0 : Int32))]) (rest := []) rfl (lenOf own_pd_Z_I_244 rfl) rfl (by show 2 * 0 + _ ≤ _; exact Nat.le_of_eq rfl) (hb hby own_dapp12_280) (fun r6 T6 L6 X6 hQ6 => ?_)
      obtain ⟨rfl, Nq6, eq6⟩ := hQ6
      have N6 := Fr.app N4 Nq6
      show own_End p e below P (T6.setTop (mkF m 283 #[.val (.ref o0), .val (.int p1), .val (.int p2), .unset] [(.int (own_f3 (0 : Int32)))]))
      refine own_st (fun _ => XS.istoreN X6.here hx rfl (hb hby own_dapp12_283) rfl (l' := #[.val (.ref o0), .val (.int p1), .val (.int p2), .val (.int (own_f3 (0 : Int32)))]) rfl) ?_
      show own_End p e below P (T6.setTop (mkF m 284 #[.val (.ref o0), .val (.int p1), .val (.int p2), .val (.int (own_f3 (0 : Int32)))] []))
      refine own_st (fun _ => XS.iloadN X6.here hx rfl (hb hby own_dapp12_284) rfl) ?_
      show own_End p e below P (T6.setTop (mkF m 285 #[.val (.ref o0), .val (.int p1), .val (.int p2), .val (.int (own_f3 (0 : Int32)))] [(.int (own_f3 (0 : Int32)))]))
      refine own_retI X6 hx hlk hP hrt (hb hby own_dapp12_285) (by decide) (by decide) ⟨congrArg (fun z => some (Value.int z)) ?_, N6, eq6⟩
      exact (show own_fapp12 p1 p2 = (own_f3 (0 : Int32)) from (if_pos hc1).trans ((if_pos hc5).trans (rfl))).symm
    · refine own_st (fun _ => XS.ifYes X4.here hx rfl (pc0 := 268) (pc' := 275) rfl (hb hby own_dapp12_268) rfl ((if0 _ _).trans (feq hc5).2) (by decide) (by decide)) ?_
      show own_End p e below P (T4.setTop (mkF m 275 #[.val (.ref o0), .val (.int p1), .val (.int p2), .unset] []))
      refine own_st (fun _ => XS.iconst X4.here hx rfl (hb hby own_dapp12_275)) ?_
      show own_End p e below P (T4.setTop (mkF m 276 #[.val (.ref o0), .val (.int p1), .val (.int p2), .unset] [(.int (1 : Int32))]))
      refine own_st (fun _ => XS.goto X4.here hx rfl (pc0 := 276) (pc' := 280) rfl (hb hby own_dapp12_276) (by decide) (by decide)) ?_
      show own_End p e below P (T4.setTop (mkF m 280 #[.val (.ref o0), .val (.int p1), .val (.int p2), .unset] [(.int (1 : Int32))]))
      refine own_callS X4 hx hZ (y := (⟨"com/example/interleaving_explorer/interleavingexplorer/lang/BinaryOperator", "fromBoolean", "(Z)I"⟩ : MethodName)) hown (hw _ (List.mem_of_getElem? (i := 32) rfl)) (hw _ (List.mem_of_getElem? (i := 33) rfl)) (hw _ (List.mem_of_getElem? (i := 6) rfl)) (hw _ (List.mem_of_getElem? (i := 34) rfl)) (by decide) (own_m3 l Z a0 hw [] (1 : Int32)  h0 n0 Z0 ) 0 (by decide) (by decide) eq4 (by decide) (by decide) (g := (mkF m 280 #[.val (.ref o0), .val (.int p1), .val (.int p2), .unset] [(.int (1 : Int32))])) rfl (by rw [hml']; rfl) (argsL := [(.int (1 : Int32))]) (rest := []) rfl (lenOf own_pd_Z_I_244 rfl) rfl (by show 2 * 0 + _ ≤ _; exact Nat.le_of_eq rfl) (hb hby own_dapp12_280) (fun r7 T7 L7 X7 hQ7 => ?_)
      obtain ⟨rfl, Nq7, eq7⟩ := hQ7
      have N7 := Fr.app N4 Nq7
      show own_End p e below P (T7.setTop (mkF m 283 #[.val (.ref o0), .val (.int p1), .val (.int p2), .unset] [(.int (own_f3 (1 : Int32)))]))
      refine own_st (fun _ => XS.istoreN X7.here hx rfl (hb hby own_dapp12_283) rfl (l' := #[.val (.ref o0), .val (.int p1), .val (.int p2), .val (.int (own_f3 (1 : Int32)))]) rfl) ?_
      show own_End p e below P (T7.setTop (mkF m 284 #[.val (.ref o0), .val (.int p1), .val (.int p2), .val (.int (own_f3 (1 : Int32)))] []))
      refine own_st (fun _ => XS.iloadN X7.here hx rfl (hb hby own_dapp12_284) rfl) ?_
      show own_End p e below P (T7.setTop (mkF m 285 #[.val (.ref o0), .val (.int p1), .val (.int p2), .val (.int (own_f3 (1 : Int32)))] [(.int (own_f3 (1 : Int32)))]))
      refine own_retI X7 hx hlk hP hrt (hb hby own_dapp12_285) (by decide) (by decide) ⟨congrArg (fun z => some (Value.int z)) ?_, N7, eq7⟩
      exact (show own_fapp12 p1 p2 = (own_f3 (1 : Int32)) from (if_pos hc1).trans ((if_neg hc5).trans (rfl))).symm
  · refine own_st (fun _ => XS.ifYes X0.here hx rfl (pc0 := 1) (pc' := 21) rfl (hb hby own_dapp12_1) rfl ((if0 _ _).trans (feq hc1).2) (by decide) (by decide)) ?_
    show own_End p e below P (s₁.setTop (mkF m 21 #[.val (.ref o0), .val (.int p1), .val (.int p2), .unset] []))
    refine own_st (fun _ => XS.iloadN X0.here hx rfl (hb hby own_dapp12_21) rfl) ?_
    show own_End p e below P (s₁.setTop (mkF m 22 #[.val (.ref o0), .val (.int p1), .val (.int p2), .unset] [(.int p2)]))
    refine own_st (fun _ => XS.ifYes X0.here hx rfl (pc0 := 22) (pc' := 42) rfl (hb hby own_dapp12_22) rfl ((if0 _ _).trans (feq hc1).2) (by decide) (by decide)) ?_
    show own_End p e below P (s₁.setTop (mkF m 42 #[.val (.ref o0), .val (.int p1), .val (.int p2), .unset] []))
    refine own_st (fun _ => XS.aloadN X0.here hx rfl (hb hby own_dapp12_42) rfl rfl) ?_
    show own_End p e below P (s₁.setTop (mkF m 43 #[.val (.ref o0), .val (.int p1), .val (.int p2), .unset] [(.ref o0)]))
    refine own_callU X0 hx hZ (x := (⟨"com/example/interleaving_explorer/interleavingexplorer/lang/BinaryOperator", "ordinal", "()I"⟩ : MethodName)) (y := (⟨"java/lang/Enum", "ordinal", "()I"⟩ : MethodName)) (owner := "java/lang/Enum") hown (hw _ (List.mem_of_getElem? (i := 23) rfl)) (hw _ (List.mem_of_getElem? (i := 24) rfl)) (hw _ (List.mem_of_getElem? (i := 25) rfl)) (by decide) (hw _ (List.mem_of_getElem? (i := 27) rfl)) (hw _ (List.mem_of_getElem? (i := 26) rfl)) (hw _ (List.mem_of_getElem? (i := 28) rfl)) (hw _ (List.mem_of_getElem? (i := 29) rfl)) E_o0 (own_mord12 l Z a0 hw [] o0  h0 n0 Z0 F_o0_ordinal) 0 (by decide) (by decide) e0 (by decide) (by decide) (g := (mkF m 43 #[.val (.ref o0), .val (.int p1), .val (.int p2), .unset] [(.ref o0)])) rfl (by rw [hml']; rfl) (argsL := []) (rest := []) rfl (lenOf own_pd_I_154 rfl) rfl (by show 2 * 0 + _ ≤ _; exact Nat.le_of_eq rfl) (hb hby own_dapp12_43) (fun r8 T8 L8 X8 hQ8 => ?_)
    obtain ⟨rfl, Nq8, eq8⟩ := hQ8
    have N8 := Fr.app N0 Nq8
    show own_End p e below P (T8.setTop (mkF m 46 #[.val (.ref o0), .val (.int p1), .val (.int p2), .unset] [(.int (12 : Int32))]))
    refine own_tsw X8 hx (pc := 46) (pc' := 267) (o := 221) (i := (12 : Int32)) (hb hby own_dapp12_46) (by decide +kernel) (by decide +kernel) (by decide) (by decide) ?_
    show own_End p e below P (T8.setTop (mkF m 267 #[.val (.ref o0), .val (.int p1), .val (.int p2), .unset] []))
    refine own_st (fun _ => XS.iloadN X8.here hx rfl (hb hby own_dapp12_267) rfl) ?_
    show own_End p e below P (T8.setTop (mkF m 268 #[.val (.ref o0), .val (.int p1), .val (.int p2), .unset] [(.int p1)]))
    by_cases hc9 : p1 = (0 : Int32)
    · refine own_st (fun _ => XS.ifNo X8.here hx rfl (hb hby own_dapp12_268) rfl ((if0 _ _).trans (teq hc9).2)) ?_
      show own_End p e below P (T8.setTop (mkF m 271 #[.val (.ref o0), .val (.int p1), .val (.int p2), .unset] []))
      refine own_st (fun _ => XS.iloadN X8.here hx rfl (hb hby own_dapp12_271) rfl) ?_
      show own_End p e below P (T8.setTop (mkF m 272 #[.val (.ref o0), .val (.int p1), .val (.int p2), .unset] [(.int p2)]))
      refine own_st (fun _ => XS.ifNo X8.here hx rfl (hb hby own_dapp12_272) rfl ((if0 _ _).trans (feq hc1).1)) ?_
      show own_End p e below P (T8.setTop (mkF m 275 #[.val (.ref o0), .val (.int p1), .val (.int p2), .unset] []))
      refine own_st (fun _ => XS.iconst X8.here hx rfl (hb hby own_dapp12_275)) ?_
      show own_End p e below P (T8.setTop (mkF m 276 #[.val (.ref o0), .val (.int p1), .val (.int p2), .unset] [(.int (1 : Int32))]))
      refine own_st (fun _ => XS.goto X8.here hx rfl (pc0 := 276) (pc' := 280) rfl (hb hby own_dapp12_276) (by decide) (by decide)) ?_
      show own_End p e below P (T8.setTop (mkF m 280 #[.val (.ref o0), .val (.int p1), .val (.int p2), .unset] [(.int (1 : Int32))]))
      refine own_callS X8 hx hZ (y := (⟨"com/example/interleaving_explorer/interleavingexplorer/lang/BinaryOperator", "fromBoolean", "(Z)I"⟩ : MethodName)) hown (hw _ (List.mem_of_getElem? (i := 32) rfl)) (hw _ (List.mem_of_getElem? (i := 33) rfl)) (hw _ (List.mem_of_getElem? (i := 6) rfl)) (hw _ (List.mem_of_getElem? (i := 34) rfl)) (by decide) (own_m3 l Z a0 hw [] (1 : Int32)  h0 n0 Z0 ) 0 (by decide) (by decide) eq8 (by decide) (by decide) (g := (mkF m 280 #[.val (.ref o0), .val (.int p1), .val (.int p2), .unset] [(.int (1 : Int32))])) rfl (by rw [hml']; rfl) (argsL := [(.int (1 : Int32))]) (rest := []) rfl (lenOf own_pd_Z_I_244 rfl) rfl (by show 2 * 0 + _ ≤ _; exact Nat.le_of_eq rfl) (hb hby own_dapp12_280) (fun r10 T10 L10 X10 hQ10 => ?_)
      obtain ⟨rfl, Nq10, eq10⟩ := hQ10
      have N10 := Fr.app N8 Nq10
      show own_End p e below P (T10.setTop (mkF m 283 #[.val (.ref o0), .val (.int p1), .val (.int p2), .unset] [(.int (own_f3 (1 : Int32)))]))
      refine own_st (fun _ => XS.istoreN X10.here hx rfl (hb hby own_dapp12_283) rfl (l' := #[.val (.ref o0), .val (.int p1), .val (.int p2), .val (.int (own_f3 (1 : Int32)))]) rfl) ?_
      show own_End p e below P (T10.setTop (mkF m 284 #[.val (.ref o0), .val (.int p1), .val (.int p2), .val (.int (own_f3 (1 : Int32)))] []))
      refine own_st (fun _ => XS.iloadN X10.here hx rfl (hb hby own_dapp12_284) rfl) ?_
      show own_End p e below P (T10.setTop (mkF m 285 #[.val (.ref o0), .val (.int p1), .val (.int p2), .val (.int (own_f3 (1 : Int32)))] [(.int (own_f3 (1 : Int32)))]))
      refine own_retI X10 hx hlk hP hrt (hb hby own_dapp12_285) (by decide) (by decide) ⟨congrArg (fun z => some (Value.int z)) ?_, N10, eq10⟩
      exact (show own_fapp12 p1 p2 = (own_f3 (1 : Int32)) from (if_neg hc1).trans ((if_pos hc9).trans (rfl))).symm
    · refine own_st (fun _ => XS.ifYes X8.here hx rfl (pc0 := 268) (pc' := 275) rfl (hb hby own_dapp12_268) rfl ((if0 _ _).trans (feq hc9).2) (by decide) (by decide)) ?_
      show own_End p e below P (T8.setTop (mkF m 275 #[.val (.ref o0), .val (.int p1), .val (.int p2), .unset] []))
      refine own_st (fun _ => XS.iconst X8.here hx rfl (hb hby own_dapp12_275)) ?_
      show own_End p e below P (T8.setTop (mkF m 276 #[.val (.ref o0), .val (.int p1), .val (.int p2), .unset] [(.int (1 : Int32))]))
      refine own_st (fun _ => XS.goto X8.here hx rfl (pc0 := 276) (pc' := 280) rfl (hb hby own_dapp12_276) (by decide) (by decide)) ?_
      show own_End p e below P (T8.setTop (mkF m 280 #[.val (.ref o0), .val (.int p1), .val (.int p2), .unset] [(.int (1 : Int32))]))
      refine own_callS X8 hx hZ (y := (⟨"com/example/interleaving_explorer/interleavingexplorer/lang/BinaryOperator", "fromBoolean", "(Z)I"⟩ : MethodName)) hown (hw _ (List.mem_of_getElem? (i := 32) rfl)) (hw _ (List.mem_of_getElem? (i := 33) rfl)) (hw _ (List.mem_of_getElem? (i := 6) rfl)) (hw _ (List.mem_of_getElem? (i := 34) rfl)) (by decide) (own_m3 l Z a0 hw [] (1 : Int32)  h0 n0 Z0 ) 0 (by decide) (by decide) eq8 (by decide) (by decide) (g := (mkF m 280 #[.val (.ref o0), .val (.int p1), .val (.int p2), .unset] [(.int (1 : Int32))])) rfl (by rw [hml']; rfl) (argsL := [(.int (1 : Int32))]) (rest := []) rfl (lenOf own_pd_Z_I_244 rfl) rfl (by show 2 * 0 + _ ≤ _; exact Nat.le_of_eq rfl) (hb hby own_dapp12_280) (fun r11 T11 L11 X11 hQ11 => ?_)
      obtain ⟨rfl, Nq11, eq11⟩ := hQ11
      have N11 := Fr.app N8 Nq11
      show own_End p e below P (T11.setTop (mkF m 283 #[.val (.ref o0), .val (.int p1), .val (.int p2), .unset] [(.int (own_f3 (1 : Int32)))]))
      refine own_st (fun _ => XS.istoreN X11.here hx rfl (hb hby own_dapp12_283) rfl (l' := #[.val (.ref o0), .val (.int p1), .val (.int p2), .val (.int (own_f3 (1 : Int32)))]) rfl) ?_
      show own_End p e below P (T11.setTop (mkF m 284 #[.val (.ref o0), .val (.int p1), .val (.int p2), .val (.int (own_f3 (1 : Int32)))] []))
      refine own_st (fun _ => XS.iloadN X11.here hx rfl (hb hby own_dapp12_284) rfl) ?_
      show own_End p e below P (T11.setTop (mkF m 285 #[.val (.ref o0), .val (.int p1), .val (.int p2), .val (.int (own_f3 (1 : Int32)))] [(.int (own_f3 (1 : Int32)))]))
      refine own_retI X11 hx hlk hP hrt (hb hby own_dapp12_285) (by decide) (by decide) ⟨congrArg (fun z => some (Value.int z)) ?_, N11, eq11⟩
      exact (show own_fapp12 p1 p2 = (own_f3 (1 : Int32)) from (if_neg hc1).trans ((if_neg hc9).trans (rfl))).symm
theorem own_pick {Z : State} {h : Heap} {k : Int32} {s_BinaryOperator_MULTIPLY s_BinaryOperator_DIVIDE s_BinaryOperator_REMAINDER s_BinaryOperator_ADD s_BinaryOperator_SUBTRACT s_BinaryOperator_LESS s_BinaryOperator_LESS_OR_EQUAL s_BinaryOperator_GREATER s_BinaryOperator_GREATER_OR_EQUAL s_BinaryOperator_EQUAL s_BinaryOperator_NOT_EQUAL s_BinaryOperator_AND s_BinaryOperator_OR : Addr} (h0 : 0 ≤ k.toInt) (h1 : k.toInt < 13) (E0 : Exa Z h s_BinaryOperator_MULTIPLY "com/example/interleaving_explorer/interleavingexplorer/lang/BinaryOperator") (E1 : Exa Z h s_BinaryOperator_DIVIDE "com/example/interleaving_explorer/interleavingexplorer/lang/BinaryOperator") (E2 : Exa Z h s_BinaryOperator_REMAINDER "com/example/interleaving_explorer/interleavingexplorer/lang/BinaryOperator") (E3 : Exa Z h s_BinaryOperator_ADD "com/example/interleaving_explorer/interleavingexplorer/lang/BinaryOperator") (E4 : Exa Z h s_BinaryOperator_SUBTRACT "com/example/interleaving_explorer/interleavingexplorer/lang/BinaryOperator") (E5 : Exa Z h s_BinaryOperator_LESS "com/example/interleaving_explorer/interleavingexplorer/lang/BinaryOperator") (E6 : Exa Z h s_BinaryOperator_LESS_OR_EQUAL "com/example/interleaving_explorer/interleavingexplorer/lang/BinaryOperator") (E7 : Exa Z h s_BinaryOperator_GREATER "com/example/interleaving_explorer/interleavingexplorer/lang/BinaryOperator") (E8 : Exa Z h s_BinaryOperator_GREATER_OR_EQUAL "com/example/interleaving_explorer/interleavingexplorer/lang/BinaryOperator") (E9 : Exa Z h s_BinaryOperator_EQUAL "com/example/interleaving_explorer/interleavingexplorer/lang/BinaryOperator") (E10 : Exa Z h s_BinaryOperator_NOT_EQUAL "com/example/interleaving_explorer/interleavingexplorer/lang/BinaryOperator") (E11 : Exa Z h s_BinaryOperator_AND "com/example/interleaving_explorer/interleavingexplorer/lang/BinaryOperator") (E12 : Exa Z h s_BinaryOperator_OR "com/example/interleaving_explorer/interleavingexplorer/lang/BinaryOperator") (F0 : Fld Z h s_BinaryOperator_MULTIPLY "java/lang/Enum" "ordinal" "I" (.int (0 : Int32))) (F1 : Fld Z h s_BinaryOperator_DIVIDE "java/lang/Enum" "ordinal" "I" (.int (1 : Int32))) (F2 : Fld Z h s_BinaryOperator_REMAINDER "java/lang/Enum" "ordinal" "I" (.int (2 : Int32))) (F3 : Fld Z h s_BinaryOperator_ADD "java/lang/Enum" "ordinal" "I" (.int (3 : Int32))) (F4 : Fld Z h s_BinaryOperator_SUBTRACT "java/lang/Enum" "ordinal" "I" (.int (4 : Int32))) (F5 : Fld Z h s_BinaryOperator_LESS "java/lang/Enum" "ordinal" "I" (.int (5 : Int32))) (F6 : Fld Z h s_BinaryOperator_LESS_OR_EQUAL "java/lang/Enum" "ordinal" "I" (.int (6 : Int32))) (F7 : Fld Z h s_BinaryOperator_GREATER "java/lang/Enum" "ordinal" "I" (.int (7 : Int32))) (F8 : Fld Z h s_BinaryOperator_GREATER_OR_EQUAL "java/lang/Enum" "ordinal" "I" (.int (8 : Int32))) (F9 : Fld Z h s_BinaryOperator_EQUAL "java/lang/Enum" "ordinal" "I" (.int (9 : Int32))) (F10 : Fld Z h s_BinaryOperator_NOT_EQUAL "java/lang/Enum" "ordinal" "I" (.int (10 : Int32))) (F11 : Fld Z h s_BinaryOperator_AND "java/lang/Enum" "ordinal" "I" (.int (11 : Int32))) (F12 : Fld Z h s_BinaryOperator_OR "java/lang/Enum" "ordinal" "I" (.int (12 : Int32))) :
    Exa Z h (own_f1 k s_BinaryOperator_MULTIPLY s_BinaryOperator_DIVIDE s_BinaryOperator_REMAINDER s_BinaryOperator_ADD s_BinaryOperator_SUBTRACT s_BinaryOperator_LESS s_BinaryOperator_LESS_OR_EQUAL s_BinaryOperator_GREATER s_BinaryOperator_GREATER_OR_EQUAL s_BinaryOperator_EQUAL s_BinaryOperator_NOT_EQUAL s_BinaryOperator_AND s_BinaryOperator_OR) "com/example/interleaving_explorer/interleavingexplorer/lang/BinaryOperator" ∧ Fld Z h (own_f1 k s_BinaryOperator_MULTIPLY s_BinaryOperator_DIVIDE s_BinaryOperator_REMAINDER s_BinaryOperator_ADD s_BinaryOperator_SUBTRACT s_BinaryOperator_LESS s_BinaryOperator_LESS_OR_EQUAL s_BinaryOperator_GREATER s_BinaryOperator_GREATER_OR_EQUAL s_BinaryOperator_EQUAL s_BinaryOperator_NOT_EQUAL s_BinaryOperator_AND s_BinaryOperator_OR) "java/lang/Enum" "ordinal" "I" (.int k) := by
  have e : own_f1 k s_BinaryOperator_MULTIPLY s_BinaryOperator_DIVIDE s_BinaryOperator_REMAINDER s_BinaryOperator_ADD s_BinaryOperator_SUBTRACT s_BinaryOperator_LESS s_BinaryOperator_LESS_OR_EQUAL s_BinaryOperator_GREATER s_BinaryOperator_GREATER_OR_EQUAL s_BinaryOperator_EQUAL s_BinaryOperator_NOT_EQUAL s_BinaryOperator_AND s_BinaryOperator_OR = (if k = (0 : Int32) then s_BinaryOperator_MULTIPLY else (if k = (1 : Int32) then s_BinaryOperator_DIVIDE else (if k = (2 : Int32) then s_BinaryOperator_REMAINDER else (if k = (3 : Int32) then s_BinaryOperator_ADD else (if k = (4 : Int32) then s_BinaryOperator_SUBTRACT else (if k = (5 : Int32) then s_BinaryOperator_LESS else (if k = (6 : Int32) then s_BinaryOperator_LESS_OR_EQUAL else (if k = (7 : Int32) then s_BinaryOperator_GREATER else (if k = (8 : Int32) then s_BinaryOperator_GREATER_OR_EQUAL else (if k = (9 : Int32) then s_BinaryOperator_EQUAL else (if k = (10 : Int32) then s_BinaryOperator_NOT_EQUAL else (if k = (11 : Int32) then s_BinaryOperator_AND else s_BinaryOperator_OR)))))))))))) := rfl
  rw [e]
  by_cases c0 : k = (0 : Int32)
  · rw [if_pos c0]; subst c0; exact ⟨E0, F0⟩
  by_cases c1 : k = (1 : Int32)
  · rw [if_neg c0, if_pos c1]; subst c1; exact ⟨E1, F1⟩
  by_cases c2 : k = (2 : Int32)
  · rw [if_neg c0, if_neg c1, if_pos c2]; subst c2; exact ⟨E2, F2⟩
  by_cases c3 : k = (3 : Int32)
  · rw [if_neg c0, if_neg c1, if_neg c2, if_pos c3]; subst c3; exact ⟨E3, F3⟩
  by_cases c4 : k = (4 : Int32)
  · rw [if_neg c0, if_neg c1, if_neg c2, if_neg c3, if_pos c4]; subst c4; exact ⟨E4, F4⟩
  by_cases c5 : k = (5 : Int32)
  · rw [if_neg c0, if_neg c1, if_neg c2, if_neg c3, if_neg c4, if_pos c5]; subst c5; exact ⟨E5, F5⟩
  by_cases c6 : k = (6 : Int32)
  · rw [if_neg c0, if_neg c1, if_neg c2, if_neg c3, if_neg c4, if_neg c5, if_pos c6]; subst c6; exact ⟨E6, F6⟩
  by_cases c7 : k = (7 : Int32)
  · rw [if_neg c0, if_neg c1, if_neg c2, if_neg c3, if_neg c4, if_neg c5, if_neg c6, if_pos c7]; subst c7; exact ⟨E7, F7⟩
  by_cases c8 : k = (8 : Int32)
  · rw [if_neg c0, if_neg c1, if_neg c2, if_neg c3, if_neg c4, if_neg c5, if_neg c6, if_neg c7, if_pos c8]; subst c8; exact ⟨E8, F8⟩
  by_cases c9 : k = (9 : Int32)
  · rw [if_neg c0, if_neg c1, if_neg c2, if_neg c3, if_neg c4, if_neg c5, if_neg c6, if_neg c7, if_neg c8, if_pos c9]; subst c9; exact ⟨E9, F9⟩
  by_cases c10 : k = (10 : Int32)
  · rw [if_neg c0, if_neg c1, if_neg c2, if_neg c3, if_neg c4, if_neg c5, if_neg c6, if_neg c7, if_neg c8, if_neg c9, if_pos c10]; subst c10; exact ⟨E10, F10⟩
  by_cases c11 : k = (11 : Int32)
  · rw [if_neg c0, if_neg c1, if_neg c2, if_neg c3, if_neg c4, if_neg c5, if_neg c6, if_neg c7, if_neg c8, if_neg c9, if_neg c10, if_pos c11]; subst c11; exact ⟨E11, F11⟩
  have c12 : k = (12 : Int32) := by
    apply Int32.toInt_inj.mp
    show k.toInt = 12
    have d0 : k.toInt ≠ 0 := fun q => c0 (Int32.toInt_inj.mp q)
    have d1 : k.toInt ≠ 1 := fun q => c1 (Int32.toInt_inj.mp q)
    have d2 : k.toInt ≠ 2 := fun q => c2 (Int32.toInt_inj.mp q)
    have d3 : k.toInt ≠ 3 := fun q => c3 (Int32.toInt_inj.mp q)
    have d4 : k.toInt ≠ 4 := fun q => c4 (Int32.toInt_inj.mp q)
    have d5 : k.toInt ≠ 5 := fun q => c5 (Int32.toInt_inj.mp q)
    have d6 : k.toInt ≠ 6 := fun q => c6 (Int32.toInt_inj.mp q)
    have d7 : k.toInt ≠ 7 := fun q => c7 (Int32.toInt_inj.mp q)
    have d8 : k.toInt ≠ 8 := fun q => c8 (Int32.toInt_inj.mp q)
    have d9 : k.toInt ≠ 9 := fun q => c9 (Int32.toInt_inj.mp q)
    have d10 : k.toInt ≠ 10 := fun q => c10 (Int32.toInt_inj.mp q)
    have d11 : k.toInt ≠ 11 := fun q => c11 (Int32.toInt_inj.mp q)
    omega
  rw [if_neg c0, if_neg c1, if_neg c2, if_neg c3, if_neg c4, if_neg c5, if_neg c6, if_neg c7, if_neg c8, if_neg c9, if_neg c10, if_neg c11]; subst c12; exact ⟨E12, F12⟩
theorem own_mod (p : Int32) : 0 ≤ ((p &&& (2147483647 : Int32)) % (13 : Int32)).toInt ∧ ((p &&& (2147483647 : Int32)) % (13 : Int32)).toInt < 13 := by
  have e := Jvm.Kit.i32_mask p 2147483647 (k := 31) (by decide) (by decide)
  rw [Jvm.Kit.i32_rem_nonneg (by rw [e]; omega)]
  have t : (13 : Int32).toInt = 13 := by decide
  rw [t]; omega
theorem own_dec {o a b : Addr} {k p v : Int32} (hA : o = a ↔ k = (11 : Int32)) (hO : o = b ↔ k = (12 : Int32)) (e : v = (if k = (11 : Int32) then (if p = (0 : Int32) then (1 : Int32) else (if k = (12 : Int32) then (1 : Int32) else (0 : Int32))) else (if k = (12 : Int32) then (if p = (0 : Int32) then (0 : Int32) else (1 : Int32)) else (0 : Int32)))) : own_f2 o p a b = v := by
  have f : own_f2 o p a b = (if o = a then (if p = (0 : Int32) then (1 : Int32) else (if o = b then (1 : Int32) else (0 : Int32))) else (if o = b then (if p = (0 : Int32) then (0 : Int32) else (1 : Int32)) else (0 : Int32))) := rfl
  rw [f, e]
  simp only [hA, hO]
theorem own_a11 {f p q : Int32} (h : f = if p = (0 : Int32) then (1 : Int32) else (0 : Int32)) (n : ¬ f = (0 : Int32)) : own_fapp11 p q = (0 : Int32) := by
  have e : own_fapp11 p q = (if q = (0 : Int32) then (if p = (0 : Int32) then (own_f3 (0 : Int32)) else (own_f3 (0 : Int32))) else (if p = (0 : Int32) then (own_f3 (0 : Int32)) else (own_f3 (1 : Int32)))) := rfl
  by_cases hz : p = (0 : Int32)
  · rw [if_pos hz] at h; rw [e]; simp only [hz, if_true]; split <;> rfl
  · rw [if_neg hz] at h; rw [e]; exact absurd h n
theorem own_b11 {f p q : Int32} (h : f = if p = (0 : Int32) then (1 : Int32) else (0 : Int32)) (n : f = (0 : Int32)) : own_fapp11 p q = (if q = (0 : Int32) then (0 : Int32) else (1 : Int32)) := by
  have e : own_fapp11 p q = (if q = (0 : Int32) then (if p = (0 : Int32) then (own_f3 (0 : Int32)) else (own_f3 (0 : Int32))) else (if p = (0 : Int32) then (own_f3 (0 : Int32)) else (own_f3 (1 : Int32)))) := rfl
  by_cases hz : p = (0 : Int32)
  · rw [if_pos hz] at h; rw [e]; rw [h] at n; exact absurd n (by decide)
  · rw [if_neg hz] at h; rw [e]; simp only [hz, if_false]; split <;> rfl
theorem own_a12 {f p q : Int32} (h : f = if p = (0 : Int32) then (0 : Int32) else (1 : Int32)) (n : ¬ f = (0 : Int32)) : own_fapp12 p q = (1 : Int32) := by
  have e : own_fapp12 p q = (if q = (0 : Int32) then (if p = (0 : Int32) then (own_f3 (0 : Int32)) else (own_f3 (1 : Int32))) else (if p = (0 : Int32) then (own_f3 (1 : Int32)) else (own_f3 (1 : Int32)))) := rfl
  by_cases hz : p = (0 : Int32)
  · rw [if_pos hz] at h; rw [e]; exact absurd h n
  · rw [if_neg hz] at h; rw [e]; simp only [hz, if_false]; split <;> rfl
theorem own_b12 {f p q : Int32} (h : f = if p = (0 : Int32) then (0 : Int32) else (1 : Int32)) (n : f = (0 : Int32)) : own_fapp12 p q = (if q = (0 : Int32) then (0 : Int32) else (1 : Int32)) := by
  have e : own_fapp12 p q = (if q = (0 : Int32) then (if p = (0 : Int32) then (own_f3 (0 : Int32)) else (own_f3 (1 : Int32))) else (if p = (0 : Int32) then (own_f3 (1 : Int32)) else (own_f3 (1 : Int32)))) := rfl
  by_cases hz : p = (0 : Int32)
  · rw [if_pos hz] at h; rw [e]; simp only [hz, if_true]; split <;> rfl
  · rw [if_neg hz] at h; rw [e]; rw [h] at n; exact absurd n (by decide)
theorem own_pd_I_Lcom_example_interleaving_explorer_interleavingexplorer_lang_BinaryOperator_920 : parseMethodDescriptor "(I)Lcom/example/interleaving_explorer/interleavingexplorer/lang/BinaryOperator;" = some ⟨[.int], some (.object "com/example/interleaving_explorer/interleavingexplorer/lang/BinaryOperator")⟩ := by decide +kernel
theorem own_pd_I_Z_244 : parseMethodDescriptor "(I)Z" = some ⟨[.int], some .boolean⟩ := by decide +kernel
theorem own_pd_II_I_300 : parseMethodDescriptor "(II)I" = some ⟨[.int, .int], some .int⟩ := by decide +kernel
theorem own_ef0 (m : MethodId) (p0 : Int32) (p1 : Int32) (p2 : Int32) (p3 : Int32) : entryFrame m #[(.int p0), (.int p1), (.int p2), (.int p3)] maxLocals = mkF m 0 #[.val (.int p0), .val (.int p1), .val (.int p2), .val (.int p3), .unset, .unset, .unset, .unset, .unset, .unset, .unset, .unset] [] := by first | (simp [entryFrame, mkF, argsToLocals, Value.category, maxLocals]; done) | rfl
set_option maxRecDepth 65536 in
set_option maxHeartbeats 40000000 in
theorem own_m0 (l : Launch) (Z : State) (a0 : Array Value) (hw : ∀ d ∈ tables_1, d.before a0 Z = true) (ws : List Jvm.Cond) (p0 : Int32) (p1 : Int32) (p2 : Int32) (p3 : Int32) (s_BinaryOperator_MULTIPLY : Addr) (s_BinaryOperator_DIVIDE : Addr) (s_BinaryOperator_REMAINDER : Addr) (s_BinaryOperator_ADD : Addr) (s_BinaryOperator_SUBTRACT : Addr) (s_BinaryOperator_LESS : Addr) (s_BinaryOperator_LESS_OR_EQUAL : Addr) (s_BinaryOperator_GREATER : Addr) (s_BinaryOperator_GREATER_OR_EQUAL : Addr) (s_BinaryOperator_EQUAL : Addr) (s_BinaryOperator_NOT_EQUAL : Addr) (s_BinaryOperator_AND : Addr) (s_BinaryOperator_OR : Addr) (h0 : Heap) (n0 : Nat) (Z0 : n0 ≤ h0.size) (E_s_BinaryOperator_MULTIPLY : Exa Z h0 s_BinaryOperator_MULTIPLY "com/example/interleaving_explorer/interleavingexplorer/lang/BinaryOperator") (E_s_BinaryOperator_DIVIDE : Exa Z h0 s_BinaryOperator_DIVIDE "com/example/interleaving_explorer/interleavingexplorer/lang/BinaryOperator") (E_s_BinaryOperator_REMAINDER : Exa Z h0 s_BinaryOperator_REMAINDER "com/example/interleaving_explorer/interleavingexplorer/lang/BinaryOperator") (E_s_BinaryOperator_ADD : Exa Z h0 s_BinaryOperator_ADD "com/example/interleaving_explorer/interleavingexplorer/lang/BinaryOperator") (E_s_BinaryOperator_SUBTRACT : Exa Z h0 s_BinaryOperator_SUBTRACT "com/example/interleaving_explorer/interleavingexplorer/lang/BinaryOperator") (E_s_BinaryOperator_LESS : Exa Z h0 s_BinaryOperator_LESS "com/example/interleaving_explorer/interleavingexplorer/lang/BinaryOperator") (E_s_BinaryOperator_LESS_OR_EQUAL : Exa Z h0 s_BinaryOperator_LESS_OR_EQUAL "com/example/interleaving_explorer/interleavingexplorer/lang/BinaryOperator") (E_s_BinaryOperator_GREATER : Exa Z h0 s_BinaryOperator_GREATER "com/example/interleaving_explorer/interleavingexplorer/lang/BinaryOperator") (E_s_BinaryOperator_GREATER_OR_EQUAL : Exa Z h0 s_BinaryOperator_GREATER_OR_EQUAL "com/example/interleaving_explorer/interleavingexplorer/lang/BinaryOperator") (E_s_BinaryOperator_EQUAL : Exa Z h0 s_BinaryOperator_EQUAL "com/example/interleaving_explorer/interleavingexplorer/lang/BinaryOperator") (E_s_BinaryOperator_NOT_EQUAL : Exa Z h0 s_BinaryOperator_NOT_EQUAL "com/example/interleaving_explorer/interleavingexplorer/lang/BinaryOperator") (E_s_BinaryOperator_AND : Exa Z h0 s_BinaryOperator_AND "com/example/interleaving_explorer/interleavingexplorer/lang/BinaryOperator") (E_s_BinaryOperator_OR : Exa Z h0 s_BinaryOperator_OR "com/example/interleaving_explorer/interleavingexplorer/lang/BinaryOperator") (F_s_BinaryOperator_MULTIPLY_ordinal : Fld Z h0 s_BinaryOperator_MULTIPLY "java/lang/Enum" "ordinal" "I" (.int (0 : Int32))) (F_s_BinaryOperator_DIVIDE_ordinal : Fld Z h0 s_BinaryOperator_DIVIDE "java/lang/Enum" "ordinal" "I" (.int (1 : Int32))) (F_s_BinaryOperator_REMAINDER_ordinal : Fld Z h0 s_BinaryOperator_REMAINDER "java/lang/Enum" "ordinal" "I" (.int (2 : Int32))) (F_s_BinaryOperator_ADD_ordinal : Fld Z h0 s_BinaryOperator_ADD "java/lang/Enum" "ordinal" "I" (.int (3 : Int32))) (F_s_BinaryOperator_SUBTRACT_ordinal : Fld Z h0 s_BinaryOperator_SUBTRACT "java/lang/Enum" "ordinal" "I" (.int (4 : Int32))) (F_s_BinaryOperator_LESS_ordinal : Fld Z h0 s_BinaryOperator_LESS "java/lang/Enum" "ordinal" "I" (.int (5 : Int32))) (F_s_BinaryOperator_LESS_OR_EQUAL_ordinal : Fld Z h0 s_BinaryOperator_LESS_OR_EQUAL "java/lang/Enum" "ordinal" "I" (.int (6 : Int32))) (F_s_BinaryOperator_GREATER_ordinal : Fld Z h0 s_BinaryOperator_GREATER "java/lang/Enum" "ordinal" "I" (.int (7 : Int32))) (F_s_BinaryOperator_GREATER_OR_EQUAL_ordinal : Fld Z h0 s_BinaryOperator_GREATER_OR_EQUAL "java/lang/Enum" "ordinal" "I" (.int (8 : Int32))) (F_s_BinaryOperator_EQUAL_ordinal : Fld Z h0 s_BinaryOperator_EQUAL "java/lang/Enum" "ordinal" "I" (.int (9 : Int32))) (F_s_BinaryOperator_NOT_EQUAL_ordinal : Fld Z h0 s_BinaryOperator_NOT_EQUAL "java/lang/Enum" "ordinal" "I" (.int (10 : Int32))) (F_s_BinaryOperator_AND_ordinal : Fld Z h0 s_BinaryOperator_AND "java/lang/Enum" "ordinal" "I" (.int (11 : Int32))) (F_s_BinaryOperator_OR_ordinal : Fld Z h0 s_BinaryOperator_OR "java/lang/Enum" "ordinal" "I" (.int (12 : Int32))) (S_BinaryOperator_MULTIPLY : Sta Z h0 "com/example/interleaving_explorer/interleavingexplorer/lang/BinaryOperator" "MULTIPLY" "Lcom/example/interleaving_explorer/interleavingexplorer/lang/BinaryOperator;" (.ref s_BinaryOperator_MULTIPLY)) (S_BinaryOperator_DIVIDE : Sta Z h0 "com/example/interleaving_explorer/interleavingexplorer/lang/BinaryOperator" "DIVIDE" "Lcom/example/interleaving_explorer/interleavingexplorer/lang/BinaryOperator;" (.ref s_BinaryOperator_DIVIDE)) (S_BinaryOperator_REMAINDER : Sta Z h0 "com/example/interleaving_explorer/interleavingexplorer/lang/BinaryOperator" "REMAINDER" "Lcom/example/interleaving_explorer/interleavingexplorer/lang/BinaryOperator;" (.ref s_BinaryOperator_REMAINDER)) (S_BinaryOperator_ADD : Sta Z h0 "com/example/interleaving_explorer/interleavingexplorer/lang/BinaryOperator" "ADD" "Lcom/example/interleaving_explorer/interleavingexplorer/lang/BinaryOperator;" (.ref s_BinaryOperator_ADD)) (S_BinaryOperator_SUBTRACT : Sta Z h0 "com/example/interleaving_explorer/interleavingexplorer/lang/BinaryOperator" "SUBTRACT" "Lcom/example/interleaving_explorer/interleavingexplorer/lang/BinaryOperator;" (.ref s_BinaryOperator_SUBTRACT)) (S_BinaryOperator_LESS : Sta Z h0 "com/example/interleaving_explorer/interleavingexplorer/lang/BinaryOperator" "LESS" "Lcom/example/interleaving_explorer/interleavingexplorer/lang/BinaryOperator;" (.ref s_BinaryOperator_LESS)) (S_BinaryOperator_LESS_OR_EQUAL : Sta Z h0 "com/example/interleaving_explorer/interleavingexplorer/lang/BinaryOperator" "LESS_OR_EQUAL" "Lcom/example/interleaving_explorer/interleavingexplorer/lang/BinaryOperator;" (.ref s_BinaryOperator_LESS_OR_EQUAL)) (S_BinaryOperator_GREATER : Sta Z h0 "com/example/interleaving_explorer/interleavingexplorer/lang/BinaryOperator" "GREATER" "Lcom/example/interleaving_explorer/interleavingexplorer/lang/BinaryOperator;" (.ref s_BinaryOperator_GREATER)) (S_BinaryOperator_GREATER_OR_EQUAL : Sta Z h0 "com/example/interleaving_explorer/interleavingexplorer/lang/BinaryOperator" "GREATER_OR_EQUAL" "Lcom/example/interleaving_explorer/interleavingexplorer/lang/BinaryOperator;" (.ref s_BinaryOperator_GREATER_OR_EQUAL)) (S_BinaryOperator_EQUAL : Sta Z h0 "com/example/interleaving_explorer/interleavingexplorer/lang/BinaryOperator" "EQUAL" "Lcom/example/interleaving_explorer/interleavingexplorer/lang/BinaryOperator;" (.ref s_BinaryOperator_EQUAL)) (S_BinaryOperator_NOT_EQUAL : Sta Z h0 "com/example/interleaving_explorer/interleavingexplorer/lang/BinaryOperator" "NOT_EQUAL" "Lcom/example/interleaving_explorer/interleavingexplorer/lang/BinaryOperator;" (.ref s_BinaryOperator_NOT_EQUAL)) (S_BinaryOperator_AND : Sta Z h0 "com/example/interleaving_explorer/interleavingexplorer/lang/BinaryOperator" "AND" "Lcom/example/interleaving_explorer/interleavingexplorer/lang/BinaryOperator;" (.ref s_BinaryOperator_AND)) (S_BinaryOperator_OR : Sta Z h0 "com/example/interleaving_explorer/interleavingexplorer/lang/BinaryOperator" "OR" "Lcom/example/interleaving_explorer/interleavingexplorer/lang/BinaryOperator;" (.ref s_BinaryOperator_OR)) :
    own_Met l Z x code maxLocals ret ws room_1 #[(.int p0), (.int p1), (.int p2), (.int p3)] h0 (fun (v : Option Value) (h : Heap) (L : List Loc) => v = some (.int 1) ∧ Fr n0 L) := by
  refine own_enter (plainFor_of_name own_pn_com_example_interleaving_explorer_interleavingexplorer_lang_BinaryOperatorIsDecidedByPinLaw) ?_
  intro p e s m below meth c s₁ P hx hby hml hrt hlk hown hnm hZ X0 e0 hP
  have N0 := Fr.nil n0
  have K0 := Keep.refl h0 []
  have hml' : c.maxLocals = 12 := hml
  refine own_cast (own_ef0 m p0 p1 p2 p3) ?_
  show own_End p e below P (s₁.setTop (mkF m 0 #[.val (.int p0), .val (.int p1), .val (.int p2), .val (.int p3), .unset, .unset, .unset, .unset, .unset, .unset, .unset, .unset] []))
  refine own_st (fun _ => XS.iloadN X0.here hx rfl (hb hby at_0) rfl) ?_
  show own_End p e below P (s₁.setTop (mkF m 1 #[.val (.int p0), .val (.int p1), .val (.int p2), .val (.int p3), .unset, .unset, .unset, .unset, .unset, .unset, .unset, .unset] [(.int p0)]))
  refine own_st (fun _ => X0.ldcInt hx hown (mvT hZ (hw _ (List.mem_of_getElem? (i := 0) rfl))) (g := (mkF m 1 #[.val (.int p0), .val (.int p1), .val (.int p2), .val (.int p3), .unset, .unset, .unset, .unset, .unset, .unset, .unset, .unset] [(.int p0)])) rfl (hb hby at_1) _) ?_
  show own_End p e below P (s₁.setTop (mkF m 3 #[.val (.int p0), .val (.int p1), .val (.int p2), .val (.int p3), .unset, .unset, .unset, .unset, .unset, .unset, .unset, .unset] [(.int (2147483647 : Int32)), (.int p0)]))
  refine own_st (fun _ => XS.iand X0.here hx rfl (hb hby at_3) rfl) ?_
  show own_End p e below P (s₁.setTop (mkF m 4 #[.val (.int p0), .val (.int p1), .val (.int p2), .val (.int p3), .unset, .unset, .unset, .unset, .unset, .unset, .unset, .unset] [(.int (p0 &&& (2147483647 : Int32)))]))
  refine own_st (fun _ => XS.bipush X0.here hx rfl (hb hby at_4)) ?_
  show own_End p e below P (s₁.setTop (mkF m 6 #[.val (.int p0), .val (.int p1), .val (.int p2), .val (.int p3), .unset, .unset, .unset, .unset, .unset, .unset, .unset, .unset] [(.int (13 : Int32)), (.int (p0 &&& (2147483647 : Int32)))]))
  refine own_st (fun _ => iremM X0 hx rfl (hb hby at_6) rfl (by decide)) ?_
  show own_End p e below P (s₁.setTop (mkF m 7 #[.val (.int p0), .val (.int p1), .val (.int p2), .val (.int p3), .unset, .unset, .unset, .unset, .unset, .unset, .unset, .unset] [(.int ((p0 &&& (2147483647 : Int32)) % (13 : Int32)))]))
  obtain ⟨k, e_k⟩ : ∃ z : Int32, z = ((p0 &&& (2147483647 : Int32)) % (13 : Int32)) := ⟨_, rfl⟩
  have hk0 := (own_mod p0).1
  have hk1 := (own_mod p0).2
  rw [← e_k] at hk0 hk1 ⊢
  show own_End p e below P (s₁.setTop (mkF m 7 #[.val (.int p0), .val (.int p1), .val (.int p2), .val (.int p3), .unset, .unset, .unset, .unset, .unset, .unset, .unset, .unset] [(.int k)]))
  refine own_st (fun _ => XS.istore X0.here hx rfl (hb hby at_7) rfl (l' := #[.val (.int p0), .val (.int p1), .val (.int p2), .val (.int p3), .val (.int k), .unset, .unset, .unset, .unset, .unset, .unset, .unset]) rfl) ?_
  show own_End p e below P (s₁.setTop (mkF m 9 #[.val (.int p0), .val (.int p1), .val (.int p2), .val (.int p3), .val (.int k), .unset, .unset, .unset, .unset, .unset, .unset, .unset] []))
  refine own_st (fun _ => XS.iload X0.here hx rfl (hb hby at_9) rfl) ?_
  show own_End p e below P (s₁.setTop (mkF m 11 #[.val (.int p0), .val (.int p1), .val (.int p2), .val (.int p3), .val (.int k), .unset, .unset, .unset, .unset, .unset, .unset, .unset] [(.int k)]))
  refine own_callS X0 hx hZ (y := (⟨"com/example/interleaving_explorer/interleavingexplorer/lang/BinaryOperatorIsDecidedByPinLaw", "pick", "(I)Lcom/example/interleaving_explorer/interleavingexplorer/lang/BinaryOperator;"⟩ : MethodName)) hown (hw _ (List.mem_of_getElem? (i := 1) rfl)) (hw _ (List.mem_of_getElem? (i := 2) rfl)) (hw _ (List.mem_of_getElem? (i := 3) rfl)) (hw _ (List.mem_of_getElem? (i := 4) rfl)) (by decide) (own_m1 l Z a0 hw [] k s_BinaryOperator_MULTIPLY s_BinaryOperator_DIVIDE s_BinaryOperator_REMAINDER s_BinaryOperator_ADD s_BinaryOperator_SUBTRACT s_BinaryOperator_LESS s_BinaryOperator_LESS_OR_EQUAL s_BinaryOperator_GREATER s_BinaryOperator_GREATER_OR_EQUAL s_BinaryOperator_EQUAL s_BinaryOperator_NOT_EQUAL s_BinaryOperator_AND s_BinaryOperator_OR h0 n0 Z0 S_BinaryOperator_MULTIPLY S_BinaryOperator_DIVIDE S_BinaryOperator_REMAINDER S_BinaryOperator_ADD S_BinaryOperator_SUBTRACT S_BinaryOperator_LESS S_BinaryOperator_LESS_OR_EQUAL S_BinaryOperator_GREATER S_BinaryOperator_GREATER_OR_EQUAL S_BinaryOperator_EQUAL S_BinaryOperator_NOT_EQUAL S_BinaryOperator_AND S_BinaryOperator_OR) 0 (by decide) (by decide) e0 (by decide) (by decide) (g := (mkF m 11 #[.val (.int p0), .val (.int p1), .val (.int p2), .val (.int p3), .val (.int k), .unset, .unset, .unset, .unset, .unset, .unset, .unset] [(.int k)])) rfl (by rw [hml']; rfl) (argsL := [(.int k)]) (rest := []) rfl (lenOf own_pd_I_Lcom_example_interleaving_explorer_interleavingexplorer_lang_BinaryOperator_920 rfl) rfl (by show 2 * 0 + _ ≤ _; exact Nat.le_of_eq rfl) (hb hby at_11) (fun r1 T1 L1 X1 hQ1 => ?_)
  obtain ⟨rfl, Nq1, eq1⟩ := hQ1
  have N1 := Fr.app N0 Nq1
  show own_End p e below P (T1.setTop (mkF m 14 #[.val (.int p0), .val (.int p1), .val (.int p2), .val (.int p3), .val (.int k), .unset, .unset, .unset, .unset, .unset, .unset, .unset] [(.ref (own_f1 k s_BinaryOperator_MULTIPLY s_BinaryOperator_DIVIDE s_BinaryOperator_REMAINDER s_BinaryOperator_ADD s_BinaryOperator_SUBTRACT s_BinaryOperator_LESS s_BinaryOperator_LESS_OR_EQUAL s_BinaryOperator_GREATER s_BinaryOperator_GREATER_OR_EQUAL s_BinaryOperator_EQUAL s_BinaryOperator_NOT_EQUAL s_BinaryOperator_AND s_BinaryOperator_OR))]))
  obtain ⟨op, e_op⟩ : ∃ z : Addr, z = (own_f1 k s_BinaryOperator_MULTIPLY s_BinaryOperator_DIVIDE s_BinaryOperator_REMAINDER s_BinaryOperator_ADD s_BinaryOperator_SUBTRACT s_BinaryOperator_LESS s_BinaryOperator_LESS_OR_EQUAL s_BinaryOperator_GREATER s_BinaryOperator_GREATER_OR_EQUAL s_BinaryOperator_EQUAL s_BinaryOperator_NOT_EQUAL s_BinaryOperator_AND s_BinaryOperator_OR) := ⟨_, rfl⟩
  rw [← e_op]
  obtain ⟨Eop, Fop⟩ := own_pick hk0 hk1 E_s_BinaryOperator_MULTIPLY E_s_BinaryOperator_DIVIDE E_s_BinaryOperator_REMAINDER E_s_BinaryOperator_ADD E_s_BinaryOperator_SUBTRACT E_s_BinaryOperator_LESS E_s_BinaryOperator_LESS_OR_EQUAL E_s_BinaryOperator_GREATER E_s_BinaryOperator_GREATER_OR_EQUAL E_s_BinaryOperator_EQUAL E_s_BinaryOperator_NOT_EQUAL E_s_BinaryOperator_AND E_s_BinaryOperator_OR F_s_BinaryOperator_MULTIPLY_ordinal F_s_BinaryOperator_DIVIDE_ordinal F_s_BinaryOperator_REMAINDER_ordinal F_s_BinaryOperator_ADD_ordinal F_s_BinaryOperator_SUBTRACT_ordinal F_s_BinaryOperator_LESS_ordinal F_s_BinaryOperator_LESS_OR_EQUAL_ordinal F_s_BinaryOperator_GREATER_ordinal F_s_BinaryOperator_GREATER_OR_EQUAL_ordinal F_s_BinaryOperator_EQUAL_ordinal F_s_BinaryOperator_NOT_EQUAL_ordinal F_s_BinaryOperator_AND_ordinal F_s_BinaryOperator_OR_ordinal
  rw [← e_op] at Eop Fop
  have hAND : op = s_BinaryOperator_AND ↔ k = (11 : Int32) := ⟨fun q => by
    by_cases hk : k = (11 : Int32)
    · exact hk
    · exact absurd q (Fld.ne Fop F_s_BinaryOperator_AND_ordinal (fun z => hk (Value.int.inj z))), fun q => by
    rw [e_op, q]; rfl⟩
  have hOR : op = s_BinaryOperator_OR ↔ k = (12 : Int32) := ⟨fun q => by
    by_cases hk : k = (12 : Int32)
    · exact hk
    · exact absurd q (Fld.ne Fop F_s_BinaryOperator_OR_ordinal (fun z => hk (Value.int.inj z))), fun q => by
    rw [e_op, q]; rfl⟩
  show own_End p e below P (T1.setTop (mkF m 14 #[.val (.int p0), .val (.int p1), .val (.int p2), .val (.int p3), .val (.int k), .unset, .unset, .unset, .unset, .unset, .unset, .unset] [(.ref op)]))
  refine own_st (fun _ => XS.astore X1.here hx rfl (hb hby at_14) rfl rfl (l' := #[.val (.int p0), .val (.int p1), .val (.int p2), .val (.int p3), .val (.int k), .val (.ref op), .unset, .unset, .unset, .unset, .unset, .unset]) rfl) ?_
  show own_End p e below P (T1.setTop (mkF m 16 #[.val (.int p0), .val (.int p1), .val (.int p2), .val (.int p3), .val (.int k), .val (.ref op), .unset, .unset, .unset, .unset, .unset, .unset] []))
  refine own_st (fun _ => XS.aload X1.here hx rfl (hb hby at_16) rfl rfl) ?_
  show own_End p e below P (T1.setTop (mkF m 18 #[.val (.int p0), .val (.int p1), .val (.int p2), .val (.int p3), .val (.int k), .val (.ref op), .unset, .unset, .unset, .unset, .unset, .unset] [(.ref op)]))
  refine own_st (fun _ => XS.iloadN X1.here hx rfl (hb hby at_18) rfl) ?_
  show own_End p e below P (T1.setTop (mkF m 19 #[.val (.int p0), .val (.int p1), .val (.int p2), .val (.int p3), .val (.int k), .val (.ref op), .unset, .unset, .unset, .unset, .unset, .unset] [(.int p1), (.ref op)]))
  refine own_callV X1 hx hZ (y := (⟨"com/example/interleaving_explorer/interleavingexplorer/lang/BinaryOperator", "isDecidedBy", "(I)Z"⟩ : MethodName)) (z := (⟨"com/example/interleaving_explorer/interleavingexplorer/lang/BinaryOperator", "isDecidedBy", "(I)Z"⟩ : MethodName)) hown (hw _ (List.mem_of_getElem? (i := 8) rfl)) (hw _ (List.mem_of_getElem? (i := 9) rfl)) (notFace_of_selects (args := #[]) (mvT hZ (hw _ (List.mem_of_getElem? (i := 11) rfl)))) (hw _ (List.mem_of_getElem? (i := 11) rfl)) (hw _ (List.mem_of_getElem? (i := 10) rfl)) (hw _ (List.mem_of_getElem? (i := 6) rfl)) (hw _ (List.mem_of_getElem? (i := 12) rfl)) (by decide) Eop (own_m2 l Z a0 hw [] op p1 s_BinaryOperator_AND s_BinaryOperator_OR h0 n0 Z0 S_BinaryOperator_AND S_BinaryOperator_OR) 0 (by decide) (by decide) eq1 (by decide) (by decide) (g := (mkF m 19 #[.val (.int p0), .val (.int p1), .val (.int p2), .val (.int p3), .val (.int k), .val (.ref op), .unset, .unset, .unset, .unset, .unset, .unset] [(.int p1), (.ref op)])) rfl (by rw [hml']; rfl) (argsL := [(.int p1)]) (rest := []) rfl (lenOf own_pd_I_Z_244 rfl) rfl (by show 2 * 0 + _ ≤ _; exact Nat.le_of_eq rfl) (hb hby at_19) (fun r2 T2 L2 X2 hQ2 => ?_)
  obtain ⟨rfl, Nq2, eq2⟩ := hQ2
  have N2 := Fr.app N1 Nq2
  show own_End p e below P (T2.setTop (mkF m 22 #[.val (.int p0), .val (.int p1), .val (.int p2), .val (.int p3), .val (.int k), .val (.ref op), .unset, .unset, .unset, .unset, .unset, .unset] [(.int (own_f2 op p1 s_BinaryOperator_AND s_BinaryOperator_OR))]))
  refine own_st (fun _ => XS.istore X2.here hx rfl (hb hby at_22) rfl (l' := #[.val (.int p0), .val (.int p1), .val (.int p2), .val (.int p3), .val (.int k), .val (.ref op), .val (.int (own_f2 op p1 s_BinaryOperator_AND s_BinaryOperator_OR)), .unset, .unset, .unset, .unset, .unset]) rfl) ?_
  show own_End p e below P (T2.setTop (mkF m 24 #[.val (.int p0), .val (.int p1), .val (.int p2), .val (.int p3), .val (.int k), .val (.ref op), .val (.int (own_f2 op p1 s_BinaryOperator_AND s_BinaryOperator_OR)), .unset, .unset, .unset, .unset, .unset] []))
  refine own_st (fun _ => XS.iload X2.here hx rfl (hb hby at_24) rfl) ?_
  show own_End p e below P (T2.setTop (mkF m 26 #[.val (.int p0), .val (.int p1), .val (.int p2), .val (.int p3), .val (.int k), .val (.ref op), .val (.int (own_f2 op p1 s_BinaryOperator_AND s_BinaryOperator_OR)), .unset, .unset, .unset, .unset, .unset] [(.int k)]))
  refine own_st (fun _ => XS.bipush X2.here hx rfl (hb hby at_26)) ?_
  show own_End p e below P (T2.setTop (mkF m 28 #[.val (.int p0), .val (.int p1), .val (.int p2), .val (.int p3), .val (.int k), .val (.ref op), .val (.int (own_f2 op p1 s_BinaryOperator_AND s_BinaryOperator_OR)), .unset, .unset, .unset, .unset, .unset] [(.int (11 : Int32)), (.int k)]))
  have J9 : ∀ v8 : Int32, v8 = (if k = (11 : Int32) then (if p1 = (0 : Int32) then (1 : Int32) else (if k = (12 : Int32) then (1 : Int32) else (0 : Int32))) else (if k = (12 : Int32) then (if p1 = (0 : Int32) then (0 : Int32) else (1 : Int32)) else (0 : Int32))) → own_End p e below P (T2.setTop (mkF m 51 #[.val (.int p0), .val (.int p1), .val (.int p2), .val (.int p3), .val (.int k), .val (.ref op), .val (.int (own_f2 op p1 s_BinaryOperator_AND s_BinaryOperator_OR)), .unset, .unset, .unset, .unset, .unset] [(.int v8)])) := by
    intro v8 e_v8
    refine own_st (fun _ => XS.istore X2.here hx rfl (hb hby at_51) rfl (l' := #[.val (.int p0), .val (.int p1), .val (.int p2), .val (.int p3), .val (.int k), .val (.ref op), .val (.int (own_f2 op p1 s_BinaryOperator_AND s_BinaryOperator_OR)), .val (.int v8), .unset, .unset, .unset, .unset]) rfl) ?_
    show own_End p e below P (T2.setTop (mkF m 53 #[.val (.int p0), .val (.int p1), .val (.int p2), .val (.int p3), .val (.int k), .val (.ref op), .val (.int (own_f2 op p1 s_BinaryOperator_AND s_BinaryOperator_OR)), .val (.int v8), .unset, .unset, .unset, .unset] []))
    refine own_st (fun _ => XS.iload X2.here hx rfl (hb hby at_53) rfl) ?_
    show own_End p e below P (T2.setTop (mkF m 55 #[.val (.int p0), .val (.int p1), .val (.int p2), .val (.int p3), .val (.int k), .val (.ref op), .val (.int (own_f2 op p1 s_BinaryOperator_AND s_BinaryOperator_OR)), .val (.int v8), .unset, .unset, .unset, .unset] [(.int (own_f2 op p1 s_BinaryOperator_AND s_BinaryOperator_OR))]))
    refine own_st (fun _ => XS.iload X2.here hx rfl (hb hby at_55) rfl) ?_
    show own_End p e below P (T2.setTop (mkF m 57 #[.val (.int p0), .val (.int p1), .val (.int p2), .val (.int p3), .val (.int k), .val (.ref op), .val (.int (own_f2 op p1 s_BinaryOperator_AND s_BinaryOperator_OR)), .val (.int v8), .unset, .unset, .unset, .unset] [(.int v8), (.int (own_f2 op p1 s_BinaryOperator_AND s_BinaryOperator_OR))]))
    have hc10 : (own_f2 op p1 s_BinaryOperator_AND s_BinaryOperator_OR) = v8 := by exact own_dec hAND hOR e_v8
    refine own_st (fun _ => XS.icmpYes X2.here hx rfl (pc0 := 57) (pc' := 62) rfl (hb hby at_57) rfl (teq hc10).1 (by decide) (by decide)) ?_
    show own_End p e below P (T2.setTop (mkF m 62 #[.val (.int p0), .val (.int p1), .val (.int p2), .val (.int p3), .val (.int k), .val (.ref op), .val (.int (own_f2 op p1 s_BinaryOperator_AND s_BinaryOperator_OR)), .val (.int v8), .unset, .unset, .unset, .unset] []))
    refine own_st (fun _ => XS.iload X2.here hx rfl (hb hby at_62) rfl) ?_
    show own_End p e below P (T2.setTop (mkF m 64 #[.val (.int p0), .val (.int p1), .val (.int p2), .val (.int p3), .val (.int k), .val (.ref op), .val (.int (own_f2 op p1 s_BinaryOperator_AND s_BinaryOperator_OR)), .val (.int v8), .unset, .unset, .unset, .unset] [(.int k)]))
    refine own_st (fun _ => XS.bipush X2.here hx rfl (hb hby at_64)) ?_
    show own_End p e below P (T2.setTop (mkF m 66 #[.val (.int p0), .val (.int p1), .val (.int p2), .val (.int p3), .val (.int k), .val (.ref op), .val (.int (own_f2 op p1 s_BinaryOperator_AND s_BinaryOperator_OR)), .val (.int v8), .unset, .unset, .unset, .unset] [(.int (11 : Int32)), (.int k)]))
    by_cases hc11 : k = (11 : Int32)
    · refine own_st (fun _ => XS.icmpYes X2.here hx rfl (pc0 := 66) (pc' := 76) rfl (hb hby at_66) rfl (teq hc11).1 (by decide) (by decide)) ?_
      show own_End p e below P (T2.setTop (mkF m 76 #[.val (.int p0), .val (.int p1), .val (.int p2), .val (.int p3), .val (.int k), .val (.ref op), .val (.int (own_f2 op p1 s_BinaryOperator_AND s_BinaryOperator_OR)), .val (.int v8), .unset, .unset, .unset, .unset] []))
      have Fop11 : Fld Z h0 op "java/lang/Enum" "ordinal" "I" (.int (11 : Int32)) := by rw [← hc11]; exact Fop
      have hd : own_f2 op p1 s_BinaryOperator_AND s_BinaryOperator_OR = (if p1 = (0 : Int32) then (1 : Int32) else (0 : Int32)) := own_dec hAND hOR (by rw [hc11]; simp)
      have neDIVIDE : op ≠ s_BinaryOperator_DIVIDE := Fld.ne Fop11 F_s_BinaryOperator_DIVIDE_ordinal (by simp)
      have neREMAINDER : op ≠ s_BinaryOperator_REMAINDER := Fld.ne Fop11 F_s_BinaryOperator_REMAINDER_ordinal (by simp)
      refine own_st (fun _ => XS.aload X2.here hx rfl (hb hby at_76) rfl rfl) ?_
      show own_End p e below P (T2.setTop (mkF m 78 #[.val (.int p0), .val (.int p1), .val (.int p2), .val (.int p3), .val (.int k), .val (.ref op), .val (.int (own_f2 op p1 s_BinaryOperator_AND s_BinaryOperator_OR)), .val (.int v8), .unset, .unset, .unset, .unset] [(.ref op)]))
      refine own_st (fun _ => XS.iloadN X2.here hx rfl (hb hby at_78) rfl) ?_
      show own_End p e below P (T2.setTop (mkF m 79 #[.val (.int p0), .val (.int p1), .val (.int p2), .val (.int p3), .val (.int k), .val (.ref op), .val (.int (own_f2 op p1 s_BinaryOperator_AND s_BinaryOperator_OR)), .val (.int v8), .unset, .unset, .unset, .unset] [(.int p1), (.ref op)]))
      refine own_st (fun _ => XS.iloadN X2.here hx rfl (hb hby at_79) rfl) ?_
      show own_End p e below P (T2.setTop (mkF m 80 #[.val (.int p0), .val (.int p1), .val (.int p2), .val (.int p3), .val (.int k), .val (.ref op), .val (.int (own_f2 op p1 s_BinaryOperator_AND s_BinaryOperator_OR)), .val (.int v8), .unset, .unset, .unset, .unset] [(.int p2), (.int p1), (.ref op)]))
      refine own_callV X2 hx hZ (y := (⟨"com/example/interleaving_explorer/interleavingexplorer/lang/BinaryOperator", "apply", "(II)I"⟩ : MethodName)) (z := (⟨"com/example/interleaving_explorer/interleavingexplorer/lang/BinaryOperator", "apply", "(II)I"⟩ : MethodName)) hown (hw _ (List.mem_of_getElem? (i := 18) rfl)) (hw _ (List.mem_of_getElem? (i := 19) rfl)) (notFace_of_selects (args := #[]) (mvT hZ (hw _ (List.mem_of_getElem? (i := 21) rfl)))) (hw _ (List.mem_of_getElem? (i := 21) rfl)) (hw _ (List.mem_of_getElem? (i := 20) rfl)) (hw _ (List.mem_of_getElem? (i := 6) rfl)) (hw _ (List.mem_of_getElem? (i := 22) rfl)) (by decide) Eop (own_mapp11 l Z a0 hw [] op p1 p2 s_BinaryOperator_DIVIDE s_BinaryOperator_REMAINDER h0 n0 Z0 Eop Fop11 S_BinaryOperator_DIVIDE S_BinaryOperator_REMAINDER neDIVIDE neREMAINDER) 0 (by decide) (by decide) eq2 (by decide) (by decide) (g := (mkF m 80 #[.val (.int p0), .val (.int p1), .val (.int p2), .val (.int p3), .val (.int k), .val (.ref op), .val (.int (own_f2 op p1 s_BinaryOperator_AND s_BinaryOperator_OR)), .val (.int v8), .unset, .unset, .unset, .unset] [(.int p2), (.int p1), (.ref op)])) rfl (by rw [hml']; rfl) (argsL := [(.int p1), (.int p2)]) (rest := []) rfl (lenOf own_pd_II_I_300 rfl) rfl (by show 2 * 0 + _ ≤ _; exact Nat.le_of_eq rfl) (hb hby at_80) (fun r12 T12 L12 X12 hQ12 => ?_)
      obtain ⟨rfl, Nq12, eq12⟩ := hQ12
      have N12 := Fr.app N2 Nq12
      show own_End p e below P (T12.setTop (mkF m 83 #[.val (.int p0), .val (.int p1), .val (.int p2), .val (.int p3), .val (.int k), .val (.ref op), .val (.int (own_f2 op p1 s_BinaryOperator_AND s_BinaryOperator_OR)), .val (.int v8), .unset, .unset, .unset, .unset] [(.int (own_fapp11 p1 p2))]))
      refine own_st (fun _ => XS.istore X12.here hx rfl (hb hby at_83) rfl (l' := #[.val (.int p0), .val (.int p1), .val (.int p2), .val (.int p3), .val (.int k), .val (.ref op), .val (.int (own_f2 op p1 s_BinaryOperator_AND s_BinaryOperator_OR)), .val (.int v8), .val (.int (own_fapp11 p1 p2)), .unset, .unset, .unset]) rfl) ?_
      show own_End p e below P (T12.setTop (mkF m 85 #[.val (.int p0), .val (.int p1), .val (.int p2), .val (.int p3), .val (.int k), .val (.ref op), .val (.int (own_f2 op p1 s_BinaryOperator_AND s_BinaryOperator_OR)), .val (.int v8), .val (.int (own_fapp11 p1 p2)), .unset, .unset, .unset] []))
      refine own_st (fun _ => XS.aload X12.here hx rfl (hb hby at_85) rfl rfl) ?_
      show own_End p e below P (T12.setTop (mkF m 87 #[.val (.int p0), .val (.int p1), .val (.int p2), .val (.int p3), .val (.int k), .val (.ref op), .val (.int (own_f2 op p1 s_BinaryOperator_AND s_BinaryOperator_OR)), .val (.int v8), .val (.int (own_fapp11 p1 p2)), .unset, .unset, .unset] [(.ref op)]))
      refine own_st (fun _ => XS.iloadN X12.here hx rfl (hb hby at_87) rfl) ?_
      show own_End p e below P (T12.setTop (mkF m 88 #[.val (.int p0), .val (.int p1), .val (.int p2), .val (.int p3), .val (.int k), .val (.ref op), .val (.int (own_f2 op p1 s_BinaryOperator_AND s_BinaryOperator_OR)), .val (.int v8), .val (.int (own_fapp11 p1 p2)), .unset, .unset, .unset] [(.int p1), (.ref op)]))
      refine own_st (fun _ => XS.iloadN X12.here hx rfl (hb hby at_88) rfl) ?_
      show own_End p e below P (T12.setTop (mkF m 89 #[.val (.int p0), .val (.int p1), .val (.int p2), .val (.int p3), .val (.int k), .val (.ref op), .val (.int (own_f2 op p1 s_BinaryOperator_AND s_BinaryOperator_OR)), .val (.int v8), .val (.int (own_fapp11 p1 p2)), .unset, .unset, .unset] [(.int p3), (.int p1), (.ref op)]))
      refine own_callV X12 hx hZ (y := (⟨"com/example/interleaving_explorer/interleavingexplorer/lang/BinaryOperator", "apply", "(II)I"⟩ : MethodName)) (z := (⟨"com/example/interleaving_explorer/interleavingexplorer/lang/BinaryOperator", "apply", "(II)I"⟩ : MethodName)) hown (hw _ (List.mem_of_getElem? (i := 18) rfl)) (hw _ (List.mem_of_getElem? (i := 19) rfl)) (notFace_of_selects (args := #[]) (mvT hZ (hw _ (List.mem_of_getElem? (i := 21) rfl)))) (hw _ (List.mem_of_getElem? (i := 21) rfl)) (hw _ (List.mem_of_getElem? (i := 20) rfl)) (hw _ (List.mem_of_getElem? (i := 6) rfl)) (hw _ (List.mem_of_getElem? (i := 22) rfl)) (by decide) Eop (own_mapp11 l Z a0 hw [] op p1 p3 s_BinaryOperator_DIVIDE s_BinaryOperator_REMAINDER h0 n0 Z0 Eop Fop11 S_BinaryOperator_DIVIDE S_BinaryOperator_REMAINDER neDIVIDE neREMAINDER) 0 (by decide) (by decide) eq12 (by decide) (by decide) (g := (mkF m 89 #[.val (.int p0), .val (.int p1), .val (.int p2), .val (.int p3), .val (.int k), .val (.ref op), .val (.int (own_f2 op p1 s_BinaryOperator_AND s_BinaryOperator_OR)), .val (.int v8), .val (.int (own_fapp11 p1 p2)), .unset, .unset, .unset] [(.int p3), (.int p1), (.ref op)])) rfl (by rw [hml']; rfl) (argsL := [(.int p1), (.int p3)]) (rest := []) rfl (lenOf own_pd_II_I_300 rfl) rfl (by show 2 * 0 + _ ≤ _; exact Nat.le_of_eq rfl) (hb hby at_89) (fun r13 T13 L13 X13 hQ13 => ?_)
      obtain ⟨rfl, Nq13, eq13⟩ := hQ13
      have N13 := Fr.app N12 Nq13
      show own_End p e below P (T13.setTop (mkF m 92 #[.val (.int p0), .val (.int p1), .val (.int p2), .val (.int p3), .val (.int k), .val (.ref op), .val (.int (own_f2 op p1 s_BinaryOperator_AND s_BinaryOperator_OR)), .val (.int v8), .val (.int (own_fapp11 p1 p2)), .unset, .unset, .unset] [(.int (own_fapp11 p1 p3))]))
      refine own_st (fun _ => XS.istore X13.here hx rfl (hb hby at_92) rfl (l' := #[.val (.int p0), .val (.int p1), .val (.int p2), .val (.int p3), .val (.int k), .val (.ref op), .val (.int (own_f2 op p1 s_BinaryOperator_AND s_BinaryOperator_OR)), .val (.int v8), .val (.int (own_fapp11 p1 p2)), .val (.int (own_fapp11 p1 p3)), .unset, .unset]) rfl) ?_
      show own_End p e below P (T13.setTop (mkF m 94 #[.val (.int p0), .val (.int p1), .val (.int p2), .val (.int p3), .val (.int k), .val (.ref op), .val (.int (own_f2 op p1 s_BinaryOperator_AND s_BinaryOperator_OR)), .val (.int v8), .val (.int (own_fapp11 p1 p2)), .val (.int (own_fapp11 p1 p3)), .unset, .unset] []))
      refine own_st (fun _ => XS.iload X13.here hx rfl (hb hby at_94) rfl) ?_
      show own_End p e below P (T13.setTop (mkF m 96 #[.val (.int p0), .val (.int p1), .val (.int p2), .val (.int p3), .val (.int k), .val (.ref op), .val (.int (own_f2 op p1 s_BinaryOperator_AND s_BinaryOperator_OR)), .val (.int v8), .val (.int (own_fapp11 p1 p2)), .val (.int (own_fapp11 p1 p3)), .unset, .unset] [(.int (own_f2 op p1 s_BinaryOperator_AND s_BinaryOperator_OR))]))
      by_cases hc14 : (own_f2 op p1 s_BinaryOperator_AND s_BinaryOperator_OR) = (0 : Int32)
      · refine own_st (fun _ => XS.ifYes X13.here hx rfl (pc0 := 96) (pc' := 133) rfl (hb hby at_96) rfl ((if0 _ _).trans (teq hc14).1) (by decide) (by decide)) ?_
        show own_End p e below P (T13.setTop (mkF m 133 #[.val (.int p0), .val (.int p1), .val (.int p2), .val (.int p3), .val (.int k), .val (.ref op), .val (.int (own_f2 op p1 s_BinaryOperator_AND s_BinaryOperator_OR)), .val (.int v8), .val (.int (own_fapp11 p1 p2)), .val (.int (own_fapp11 p1 p3)), .unset, .unset] []))
        refine own_st (fun _ => XS.iloadN X13.here hx rfl (hb hby at_133) rfl) ?_
        show own_End p e below P (T13.setTop (mkF m 134 #[.val (.int p0), .val (.int p1), .val (.int p2), .val (.int p3), .val (.int k), .val (.ref op), .val (.int (own_f2 op p1 s_BinaryOperator_AND s_BinaryOperator_OR)), .val (.int v8), .val (.int (own_fapp11 p1 p2)), .val (.int (own_fapp11 p1 p3)), .unset, .unset] [(.int p2)]))
        by_cases hc15 : p2 = (0 : Int32)
        · refine own_st (fun _ => XS.ifYes X13.here hx rfl (pc0 := 134) (pc' := 141) rfl (hb hby at_134) rfl ((if0 _ _).trans (teq hc15).1) (by decide) (by decide)) ?_
          show own_End p e below P (T13.setTop (mkF m 141 #[.val (.int p0), .val (.int p1), .val (.int p2), .val (.int p3), .val (.int k), .val (.ref op), .val (.int (own_f2 op p1 s_BinaryOperator_AND s_BinaryOperator_OR)), .val (.int v8), .val (.int (own_fapp11 p1 p2)), .val (.int (own_fapp11 p1 p3)), .unset, .unset] []))
          refine own_st (fun _ => XS.iconst X13.here hx rfl (hb hby at_141)) ?_
          show own_End p e below P (T13.setTop (mkF m 142 #[.val (.int p0), .val (.int p1), .val (.int p2), .val (.int p3), .val (.int k), .val (.ref op), .val (.int (own_f2 op p1 s_BinaryOperator_AND s_BinaryOperator_OR)), .val (.int v8), .val (.int (own_fapp11 p1 p2)), .val (.int (own_fapp11 p1 p3)), .unset, .unset] [(.int (0 : Int32))]))
          refine own_st (fun _ => XS.istore X13.here hx rfl (hb hby at_142) rfl (l' := #[.val (.int p0), .val (.int p1), .val (.int p2), .val (.int p3), .val (.int k), .val (.ref op), .val (.int (own_f2 op p1 s_BinaryOperator_AND s_BinaryOperator_OR)), .val (.int v8), .val (.int (own_fapp11 p1 p2)), .val (.int (own_fapp11 p1 p3)), .val (.int (0 : Int32)), .unset]) rfl) ?_
          show own_End p e below P (T13.setTop (mkF m 144 #[.val (.int p0), .val (.int p1), .val (.int p2), .val (.int p3), .val (.int k), .val (.ref op), .val (.int (own_f2 op p1 s_BinaryOperator_AND s_BinaryOperator_OR)), .val (.int v8), .val (.int (own_fapp11 p1 p2)), .val (.int (own_fapp11 p1 p3)), .val (.int (0 : Int32)), .unset] []))
          refine own_st (fun _ => XS.iloadN X13.here hx rfl (hb hby at_144) rfl) ?_
          show own_End p e below P (T13.setTop (mkF m 145 #[.val (.int p0), .val (.int p1), .val (.int p2), .val (.int p3), .val (.int k), .val (.ref op), .val (.int (own_f2 op p1 s_BinaryOperator_AND s_BinaryOperator_OR)), .val (.int v8), .val (.int (own_fapp11 p1 p2)), .val (.int (own_fapp11 p1 p3)), .val (.int (0 : Int32)), .unset] [(.int p3)]))
          by_cases hc16 : p3 = (0 : Int32)
          · refine own_st (fun _ => XS.ifYes X13.here hx rfl (pc0 := 145) (pc' := 152) rfl (hb hby at_145) rfl ((if0 _ _).trans (teq hc16).1) (by decide) (by decide)) ?_
            show own_End p e below P (T13.setTop (mkF m 152 #[.val (.int p0), .val (.int p1), .val (.int p2), .val (.int p3), .val (.int k), .val (.ref op), .val (.int (own_f2 op p1 s_BinaryOperator_AND s_BinaryOperator_OR)), .val (.int v8), .val (.int (own_fapp11 p1 p2)), .val (.int (own_fapp11 p1 p3)), .val (.int (0 : Int32)), .unset] []))
            refine own_st (fun _ => XS.iconst X13.here hx rfl (hb hby at_152)) ?_
            show own_End p e below P (T13.setTop (mkF m 153 #[.val (.int p0), .val (.int p1), .val (.int p2), .val (.int p3), .val (.int k), .val (.ref op), .val (.int (own_f2 op p1 s_BinaryOperator_AND s_BinaryOperator_OR)), .val (.int v8), .val (.int (own_fapp11 p1 p2)), .val (.int (own_fapp11 p1 p3)), .val (.int (0 : Int32)), .unset] [(.int (0 : Int32))]))
            refine own_st (fun _ => XS.istore X13.here hx rfl (hb hby at_153) rfl (l' := #[.val (.int p0), .val (.int p1), .val (.int p2), .val (.int p3), .val (.int k), .val (.ref op), .val (.int (own_f2 op p1 s_BinaryOperator_AND s_BinaryOperator_OR)), .val (.int v8), .val (.int (own_fapp11 p1 p2)), .val (.int (own_fapp11 p1 p3)), .val (.int (0 : Int32)), .val (.int (0 : Int32))]) rfl) ?_
            show own_End p e below P (T13.setTop (mkF m 155 #[.val (.int p0), .val (.int p1), .val (.int p2), .val (.int p3), .val (.int k), .val (.ref op), .val (.int (own_f2 op p1 s_BinaryOperator_AND s_BinaryOperator_OR)), .val (.int v8), .val (.int (own_fapp11 p1 p2)), .val (.int (own_fapp11 p1 p3)), .val (.int (0 : Int32)), .val (.int (0 : Int32))] []))
            refine own_st (fun _ => XS.iload X13.here hx rfl (hb hby at_155) rfl) ?_
            show own_End p e below P (T13.setTop (mkF m 157 #[.val (.int p0), .val (.int p1), .val (.int p2), .val (.int p3), .val (.int k), .val (.ref op), .val (.int (own_f2 op p1 s_BinaryOperator_AND s_BinaryOperator_OR)), .val (.int v8), .val (.int (own_fapp11 p1 p2)), .val (.int (own_fapp11 p1 p3)), .val (.int (0 : Int32)), .val (.int (0 : Int32))] [(.int (own_fapp11 p1 p2))]))
            refine own_st (fun _ => XS.iload X13.here hx rfl (hb hby at_157) rfl) ?_
            show own_End p e below P (T13.setTop (mkF m 159 #[.val (.int p0), .val (.int p1), .val (.int p2), .val (.int p3), .val (.int k), .val (.ref op), .val (.int (own_f2 op p1 s_BinaryOperator_AND s_BinaryOperator_OR)), .val (.int v8), .val (.int (own_fapp11 p1 p2)), .val (.int (own_fapp11 p1 p3)), .val (.int (0 : Int32)), .val (.int (0 : Int32))] [(.int (0 : Int32)), (.int (own_fapp11 p1 p2))]))
            have hc17 : (own_fapp11 p1 p2) = (0 : Int32) := by rw [own_b11 hd hc14, if_pos hc15]
            refine own_st (fun _ => XS.icmpNo X13.here hx rfl (hb hby at_159) rfl (teq hc17).2) ?_
            show own_End p e below P (T13.setTop (mkF m 162 #[.val (.int p0), .val (.int p1), .val (.int p2), .val (.int p3), .val (.int k), .val (.ref op), .val (.int (own_f2 op p1 s_BinaryOperator_AND s_BinaryOperator_OR)), .val (.int v8), .val (.int (own_fapp11 p1 p2)), .val (.int (own_fapp11 p1 p3)), .val (.int (0 : Int32)), .val (.int (0 : Int32))] []))
            refine own_st (fun _ => XS.iload X13.here hx rfl (hb hby at_162) rfl) ?_
            show own_End p e below P (T13.setTop (mkF m 164 #[.val (.int p0), .val (.int p1), .val (.int p2), .val (.int p3), .val (.int k), .val (.ref op), .val (.int (own_f2 op p1 s_BinaryOperator_AND s_BinaryOperator_OR)), .val (.int v8), .val (.int (own_fapp11 p1 p2)), .val (.int (own_fapp11 p1 p3)), .val (.int (0 : Int32)), .val (.int (0 : Int32))] [(.int (own_fapp11 p1 p3))]))
            refine own_st (fun _ => XS.iload X13.here hx rfl (hb hby at_164) rfl) ?_
            show own_End p e below P (T13.setTop (mkF m 166 #[.val (.int p0), .val (.int p1), .val (.int p2), .val (.int p3), .val (.int k), .val (.ref op), .val (.int (own_f2 op p1 s_BinaryOperator_AND s_BinaryOperator_OR)), .val (.int v8), .val (.int (own_fapp11 p1 p2)), .val (.int (own_fapp11 p1 p3)), .val (.int (0 : Int32)), .val (.int (0 : Int32))] [(.int (0 : Int32)), (.int (own_fapp11 p1 p3))]))
            have hc18 : (own_fapp11 p1 p3) = (0 : Int32) := by rw [own_b11 hd hc14, if_pos hc16]
            refine own_st (fun _ => XS.icmpNo X13.here hx rfl (hb hby at_166) rfl (teq hc18).2) ?_
            show own_End p e below P (T13.setTop (mkF m 169 #[.val (.int p0), .val (.int p1), .val (.int p2), .val (.int p3), .val (.int k), .val (.ref op), .val (.int (own_f2 op p1 s_BinaryOperator_AND s_BinaryOperator_OR)), .val (.int v8), .val (.int (own_fapp11 p1 p2)), .val (.int (own_fapp11 p1 p3)), .val (.int (0 : Int32)), .val (.int (0 : Int32))] []))
            refine own_st (fun _ => XS.iconst X13.here hx rfl (hb hby at_169)) ?_
            show own_End p e below P (T13.setTop (mkF m 170 #[.val (.int p0), .val (.int p1), .val (.int p2), .val (.int p3), .val (.int k), .val (.ref op), .val (.int (own_f2 op p1 s_BinaryOperator_AND s_BinaryOperator_OR)), .val (.int v8), .val (.int (own_fapp11 p1 p2)), .val (.int (own_fapp11 p1 p3)), .val (.int (0 : Int32)), .val (.int (0 : Int32))] [(.int (1 : Int32))]))
            refine own_st (fun _ => XS.goto X13.here hx rfl (pc0 := 170) (pc' := 174) rfl (hb hby at_170) (by decide) (by decide)) ?_
            show own_End p e below P (T13.setTop (mkF m 174 #[.val (.int p0), .val (.int p1), .val (.int p2), .val (.int p3), .val (.int k), .val (.ref op), .val (.int (own_f2 op p1 s_BinaryOperator_AND s_BinaryOperator_OR)), .val (.int v8), .val (.int (own_fapp11 p1 p2)), .val (.int (own_fapp11 p1 p3)), .val (.int (0 : Int32)), .val (.int (0 : Int32))] [(.int (1 : Int32))]))
            exact own_retN X13 hx hlk hP (t := .boolean) (by simp) hrt (hb hby at_174) (by decide) (by decide) ⟨rfl, N13⟩
          · refine own_st (fun _ => XS.ifNo X13.here hx rfl (hb hby at_145) rfl ((if0 _ _).trans (feq hc16).1)) ?_
            show own_End p e below P (T13.setTop (mkF m 148 #[.val (.int p0), .val (.int p1), .val (.int p2), .val (.int p3), .val (.int k), .val (.ref op), .val (.int (own_f2 op p1 s_BinaryOperator_AND s_BinaryOperator_OR)), .val (.int v8), .val (.int (own_fapp11 p1 p2)), .val (.int (own_fapp11 p1 p3)), .val (.int (0 : Int32)), .unset] []))
            refine own_st (fun _ => XS.iconst X13.here hx rfl (hb hby at_148)) ?_
            show own_End p e below P (T13.setTop (mkF m 149 #[.val (.int p0), .val (.int p1), .val (.int p2), .val (.int p3), .val (.int k), .val (.ref op), .val (.int (own_f2 op p1 s_BinaryOperator_AND s_BinaryOperator_OR)), .val (.int v8), .val (.int (own_fapp11 p1 p2)), .val (.int (own_fapp11 p1 p3)), .val (.int (0 : Int32)), .unset] [(.int (1 : Int32))]))
            refine own_st (fun _ => XS.goto X13.here hx rfl (pc0 := 149) (pc' := 153) rfl (hb hby at_149) (by decide) (by decide)) ?_
            show own_End p e below P (T13.setTop (mkF m 153 #[.val (.int p0), .val (.int p1), .val (.int p2), .val (.int p3), .val (.int k), .val (.ref op), .val (.int (own_f2 op p1 s_BinaryOperator_AND s_BinaryOperator_OR)), .val (.int v8), .val (.int (own_fapp11 p1 p2)), .val (.int (own_fapp11 p1 p3)), .val (.int (0 : Int32)), .unset] [(.int (1 : Int32))]))
            refine own_st (fun _ => XS.istore X13.here hx rfl (hb hby at_153) rfl (l' := #[.val (.int p0), .val (.int p1), .val (.int p2), .val (.int p3), .val (.int k), .val (.ref op), .val (.int (own_f2 op p1 s_BinaryOperator_AND s_BinaryOperator_OR)), .val (.int v8), .val (.int (own_fapp11 p1 p2)), .val (.int (own_fapp11 p1 p3)), .val (.int (0 : Int32)), .val (.int (1 : Int32))]) rfl) ?_
            show own_End p e below P (T13.setTop (mkF m 155 #[.val (.int p0), .val (.int p1), .val (.int p2), .val (.int p3), .val (.int k), .val (.ref op), .val (.int (own_f2 op p1 s_BinaryOperator_AND s_BinaryOperator_OR)), .val (.int v8), .val (.int (own_fapp11 p1 p2)), .val (.int (own_fapp11 p1 p3)), .val (.int (0 : Int32)), .val (.int (1 : Int32))] []))
            refine own_st (fun _ => XS.iload X13.here hx rfl (hb hby at_155) rfl) ?_
            show own_End p e below P (T13.setTop (mkF m 157 #[.val (.int p0), .val (.int p1), .val (.int p2), .val (.int p3), .val (.int k), .val (.ref op), .val (.int (own_f2 op p1 s_BinaryOperator_AND s_BinaryOperator_OR)), .val (.int v8), .val (.int (own_fapp11 p1 p2)), .val (.int (own_fapp11 p1 p3)), .val (.int (0 : Int32)), .val (.int (1 : Int32))] [(.int (own_fapp11 p1 p2))]))
            refine own_st (fun _ => XS.iload X13.here hx rfl (hb hby at_157) rfl) ?_
            show own_End p e below P (T13.setTop (mkF m 159 #[.val (.int p0), .val (.int p1), .val (.int p2), .val (.int p3), .val (.int k), .val (.ref op), .val (.int (own_f2 op p1 s_BinaryOperator_AND s_BinaryOperator_OR)), .val (.int v8), .val (.int (own_fapp11 p1 p2)), .val (.int (own_fapp11 p1 p3)), .val (.int (0 : Int32)), .val (.int (1 : Int32))] [(.int (0 : Int32)), (.int (own_fapp11 p1 p2))]))
            have hc19 : (own_fapp11 p1 p2) = (0 : Int32) := by rw [own_b11 hd hc14, if_pos hc15]
            refine own_st (fun _ => XS.icmpNo X13.here hx rfl (hb hby at_159) rfl (teq hc19).2) ?_
            show own_End p e below P (T13.setTop (mkF m 162 #[.val (.int p0), .val (.int p1), .val (.int p2), .val (.int p3), .val (.int k), .val (.ref op), .val (.int (own_f2 op p1 s_BinaryOperator_AND s_BinaryOperator_OR)), .val (.int v8), .val (.int (own_fapp11 p1 p2)), .val (.int (own_fapp11 p1 p3)), .val (.int (0 : Int32)), .val (.int (1 : Int32))] []))
            refine own_st (fun _ => XS.iload X13.here hx rfl (hb hby at_162) rfl) ?_
            show own_End p e below P (T13.setTop (mkF m 164 #[.val (.int p0), .val (.int p1), .val (.int p2), .val (.int p3), .val (.int k), .val (.ref op), .val (.int (own_f2 op p1 s_BinaryOperator_AND s_BinaryOperator_OR)), .val (.int v8), .val (.int (own_fapp11 p1 p2)), .val (.int (own_fapp11 p1 p3)), .val (.int (0 : Int32)), .val (.int (1 : Int32))] [(.int (own_fapp11 p1 p3))]))
            refine own_st (fun _ => XS.iload X13.here hx rfl (hb hby at_164) rfl) ?_
            show own_End p e below P (T13.setTop (mkF m 166 #[.val (.int p0), .val (.int p1), .val (.int p2), .val (.int p3), .val (.int k), .val (.ref op), .val (.int (own_f2 op p1 s_BinaryOperator_AND s_BinaryOperator_OR)), .val (.int v8), .val (.int (own_fapp11 p1 p2)), .val (.int (own_fapp11 p1 p3)), .val (.int (0 : Int32)), .val (.int (1 : Int32))] [(.int (1 : Int32)), (.int (own_fapp11 p1 p3))]))
            have hc20 : (own_fapp11 p1 p3) = (1 : Int32) := by rw [own_b11 hd hc14, if_neg hc16]
            refine own_st (fun _ => XS.icmpNo X13.here hx rfl (hb hby at_166) rfl (teq hc20).2) ?_
            show own_End p e below P (T13.setTop (mkF m 169 #[.val (.int p0), .val (.int p1), .val (.int p2), .val (.int p3), .val (.int k), .val (.ref op), .val (.int (own_f2 op p1 s_BinaryOperator_AND s_BinaryOperator_OR)), .val (.int v8), .val (.int (own_fapp11 p1 p2)), .val (.int (own_fapp11 p1 p3)), .val (.int (0 : Int32)), .val (.int (1 : Int32))] []))
            refine own_st (fun _ => XS.iconst X13.here hx rfl (hb hby at_169)) ?_
            show own_End p e below P (T13.setTop (mkF m 170 #[.val (.int p0), .val (.int p1), .val (.int p2), .val (.int p3), .val (.int k), .val (.ref op), .val (.int (own_f2 op p1 s_BinaryOperator_AND s_BinaryOperator_OR)), .val (.int v8), .val (.int (own_fapp11 p1 p2)), .val (.int (own_fapp11 p1 p3)), .val (.int (0 : Int32)), .val (.int (1 : Int32))] [(.int (1 : Int32))]))
            refine own_st (fun _ => XS.goto X13.here hx rfl (pc0 := 170) (pc' := 174) rfl (hb hby at_170) (by decide) (by decide)) ?_
            show own_End p e below P (T13.setTop (mkF m 174 #[.val (.int p0), .val (.int p1), .val (.int p2), .val (.int p3), .val (.int k), .val (.ref op), .val (.int (own_f2 op p1 s_BinaryOperator_AND s_BinaryOperator_OR)), .val (.int v8), .val (.int (own_fapp11 p1 p2)), .val (.int (own_fapp11 p1 p3)), .val (.int (0 : Int32)), .val (.int (1 : Int32))] [(.int (1 : Int32))]))
            exact own_retN X13 hx hlk hP (t := .boolean) (by simp) hrt (hb hby at_174) (by decide) (by decide) ⟨rfl, N13⟩
        · refine own_st (fun _ => XS.ifNo X13.here hx rfl (hb hby at_134) rfl ((if0 _ _).trans (feq hc15).1)) ?_
          show own_End p e below P (T13.setTop (mkF m 137 #[.val (.int p0), .val (.int p1), .val (.int p2), .val (.int p3), .val (.int k), .val (.ref op), .val (.int (own_f2 op p1 s_BinaryOperator_AND s_BinaryOperator_OR)), .val (.int v8), .val (.int (own_fapp11 p1 p2)), .val (.int (own_fapp11 p1 p3)), .unset, .unset] []))
          refine own_st (fun _ => XS.iconst X13.here hx rfl (hb hby at_137)) ?_
          show own_End p e below P (T13.setTop (mkF m 138 #[.val (.int p0), .val (.int p1), .val (.int p2), .val (.int p3), .val (.int k), .val (.ref op), .val (.int (own_f2 op p1 s_BinaryOperator_AND s_BinaryOperator_OR)), .val (.int v8), .val (.int (own_fapp11 p1 p2)), .val (.int (own_fapp11 p1 p3)), .unset, .unset] [(.int (1 : Int32))]))
          refine own_st (fun _ => XS.goto X13.here hx rfl (pc0 := 138) (pc' := 142) rfl (hb hby at_138) (by decide) (by decide)) ?_
          show own_End p e below P (T13.setTop (mkF m 142 #[.val (.int p0), .val (.int p1), .val (.int p2), .val (.int p3), .val (.int k), .val (.ref op), .val (.int (own_f2 op p1 s_BinaryOperator_AND s_BinaryOperator_OR)), .val (.int v8), .val (.int (own_fapp11 p1 p2)), .val (.int (own_fapp11 p1 p3)), .unset, .unset] [(.int (1 : Int32))]))
          refine own_st (fun _ => XS.istore X13.here hx rfl (hb hby at_142) rfl (l' := #[.val (.int p0), .val (.int p1), .val (.int p2), .val (.int p3), .val (.int k), .val (.ref op), .val (.int (own_f2 op p1 s_BinaryOperator_AND s_BinaryOperator_OR)), .val (.int v8), .val (.int (own_fapp11 p1 p2)), .val (.int (own_fapp11 p1 p3)), .val (.int (1 : Int32)), .unset]) rfl) ?_
          show own_End p e below P (T13.setTop (mkF m 144 #[.val (.int p0), .val (.int p1), .val (.int p2), .val (.int p3), .val (.int k), .val (.ref op), .val (.int (own_f2 op p1 s_BinaryOperator_AND s_BinaryOperator_OR)), .val (.int v8), .val (.int (own_fapp11 p1 p2)), .val (.int (own_fapp11 p1 p3)), .val (.int (1 : Int32)), .unset] []))
          refine own_st (fun _ => XS.iloadN X13.here hx rfl (hb hby at_144) rfl) ?_
          show own_End p e below P (T13.setTop (mkF m 145 #[.val (.int p0), .val (.int p1), .val (.int p2), .val (.int p3), .val (.int k), .val (.ref op), .val (.int (own_f2 op p1 s_BinaryOperator_AND s_BinaryOperator_OR)), .val (.int v8), .val (.int (own_fapp11 p1 p2)), .val (.int (own_fapp11 p1 p3)), .val (.int (1 : Int32)), .unset] [(.int p3)]))
          by_cases hc21 : p3 = (0 : Int32)
          · refine own_st (fun _ => XS.ifYes X13.here hx rfl (pc0 := 145) (pc' := 152) rfl (hb hby at_145) rfl ((if0 _ _).trans (teq hc21).1) (by decide) (by decide)) ?_
            show own_End p e below P (T13.setTop (mkF m 152 #[.val (.int p0), .val (.int p1), .val (.int p2), .val (.int p3), .val (.int k), .val (.ref op), .val (.int (own_f2 op p1 s_BinaryOperator_AND s_BinaryOperator_OR)), .val (.int v8), .val (.int (own_fapp11 p1 p2)), .val (.int (own_fapp11 p1 p3)), .val (.int (1 : Int32)), .unset] []))
            refine own_st (fun _ => XS.iconst X13.here hx rfl (hb hby at_152)) ?_
            show own_End p e below P (T13.setTop (mkF m 153 #[.val (.int p0), .val (.int p1), .val (.int p2), .val (.int p3), .val (.int k), .val (.ref op), .val (.int (own_f2 op p1 s_BinaryOperator_AND s_BinaryOperator_OR)), .val (.int v8), .val (.int (own_fapp11 p1 p2)), .val (.int (own_fapp11 p1 p3)), .val (.int (1 : Int32)), .unset] [(.int (0 : Int32))]))
            refine own_st (fun _ => XS.istore X13.here hx rfl (hb hby at_153) rfl (l' := #[.val (.int p0), .val (.int p1), .val (.int p2), .val (.int p3), .val (.int k), .val (.ref op), .val (.int (own_f2 op p1 s_BinaryOperator_AND s_BinaryOperator_OR)), .val (.int v8), .val (.int (own_fapp11 p1 p2)), .val (.int (own_fapp11 p1 p3)), .val (.int (1 : Int32)), .val (.int (0 : Int32))]) rfl) ?_
            show own_End p e below P (T13.setTop (mkF m 155 #[.val (.int p0), .val (.int p1), .val (.int p2), .val (.int p3), .val (.int k), .val (.ref op), .val (.int (own_f2 op p1 s_BinaryOperator_AND s_BinaryOperator_OR)), .val (.int v8), .val (.int (own_fapp11 p1 p2)), .val (.int (own_fapp11 p1 p3)), .val (.int (1 : Int32)), .val (.int (0 : Int32))] []))
            refine own_st (fun _ => XS.iload X13.here hx rfl (hb hby at_155) rfl) ?_
            show own_End p e below P (T13.setTop (mkF m 157 #[.val (.int p0), .val (.int p1), .val (.int p2), .val (.int p3), .val (.int k), .val (.ref op), .val (.int (own_f2 op p1 s_BinaryOperator_AND s_BinaryOperator_OR)), .val (.int v8), .val (.int (own_fapp11 p1 p2)), .val (.int (own_fapp11 p1 p3)), .val (.int (1 : Int32)), .val (.int (0 : Int32))] [(.int (own_fapp11 p1 p2))]))
            refine own_st (fun _ => XS.iload X13.here hx rfl (hb hby at_157) rfl) ?_
            show own_End p e below P (T13.setTop (mkF m 159 #[.val (.int p0), .val (.int p1), .val (.int p2), .val (.int p3), .val (.int k), .val (.ref op), .val (.int (own_f2 op p1 s_BinaryOperator_AND s_BinaryOperator_OR)), .val (.int v8), .val (.int (own_fapp11 p1 p2)), .val (.int (own_fapp11 p1 p3)), .val (.int (1 : Int32)), .val (.int (0 : Int32))] [(.int (1 : Int32)), (.int (own_fapp11 p1 p2))]))
            have hc22 : (own_fapp11 p1 p2) = (1 : Int32) := by rw [own_b11 hd hc14, if_neg hc15]
            refine own_st (fun _ => XS.icmpNo X13.here hx rfl (hb hby at_159) rfl (teq hc22).2) ?_
            show own_End p e below P (T13.setTop (mkF m 162 #[.val (.int p0), .val (.int p1), .val (.int p2), .val (.int p3), .val (.int k), .val (.ref op), .val (.int (own_f2 op p1 s_BinaryOperator_AND s_BinaryOperator_OR)), .val (.int v8), .val (.int (own_fapp11 p1 p2)), .val (.int (own_fapp11 p1 p3)), .val (.int (1 : Int32)), .val (.int (0 : Int32))] []))
            refine own_st (fun _ => XS.iload X13.here hx rfl (hb hby at_162) rfl) ?_
            show own_End p e below P (T13.setTop (mkF m 164 #[.val (.int p0), .val (.int p1), .val (.int p2), .val (.int p3), .val (.int k), .val (.ref op), .val (.int (own_f2 op p1 s_BinaryOperator_AND s_BinaryOperator_OR)), .val (.int v8), .val (.int (own_fapp11 p1 p2)), .val (.int (own_fapp11 p1 p3)), .val (.int (1 : Int32)), .val (.int (0 : Int32))] [(.int (own_fapp11 p1 p3))]))
            refine own_st (fun _ => XS.iload X13.here hx rfl (hb hby at_164) rfl) ?_
            show own_End p e below P (T13.setTop (mkF m 166 #[.val (.int p0), .val (.int p1), .val (.int p2), .val (.int p3), .val (.int k), .val (.ref op), .val (.int (own_f2 op p1 s_BinaryOperator_AND s_BinaryOperator_OR)), .val (.int v8), .val (.int (own_fapp11 p1 p2)), .val (.int (own_fapp11 p1 p3)), .val (.int (1 : Int32)), .val (.int (0 : Int32))] [(.int (0 : Int32)), (.int (own_fapp11 p1 p3))]))
            have hc23 : (own_fapp11 p1 p3) = (0 : Int32) := by rw [own_b11 hd hc14, if_pos hc21]
            refine own_st (fun _ => XS.icmpNo X13.here hx rfl (hb hby at_166) rfl (teq hc23).2) ?_
            show own_End p e below P (T13.setTop (mkF m 169 #[.val (.int p0), .val (.int p1), .val (.int p2), .val (.int p3), .val (.int k), .val (.ref op), .val (.int (own_f2 op p1 s_BinaryOperator_AND s_BinaryOperator_OR)), .val (.int v8), .val (.int (own_fapp11 p1 p2)), .val (.int (own_fapp11 p1 p3)), .val (.int (1 : Int32)), .val (.int (0 : Int32))] []))
            refine own_st (fun _ => XS.iconst X13.here hx rfl (hb hby at_169)) ?_
            show own_End p e below P (T13.setTop (mkF m 170 #[.val (.int p0), .val (.int p1), .val (.int p2), .val (.int p3), .val (.int k), .val (.ref op), .val (.int (own_f2 op p1 s_BinaryOperator_AND s_BinaryOperator_OR)), .val (.int v8), .val (.int (own_fapp11 p1 p2)), .val (.int (own_fapp11 p1 p3)), .val (.int (1 : Int32)), .val (.int (0 : Int32))] [(.int (1 : Int32))]))
            refine own_st (fun _ => XS.goto X13.here hx rfl (pc0 := 170) (pc' := 174) rfl (hb hby at_170) (by decide) (by decide)) ?_
            show own_End p e below P (T13.setTop (mkF m 174 #[.val (.int p0), .val (.int p1), .val (.int p2), .val (.int p3), .val (.int k), .val (.ref op), .val (.int (own_f2 op p1 s_BinaryOperator_AND s_BinaryOperator_OR)), .val (.int v8), .val (.int (own_fapp11 p1 p2)), .val (.int (own_fapp11 p1 p3)), .val (.int (1 : Int32)), .val (.int (0 : Int32))] [(.int (1 : Int32))]))
            exact own_retN X13 hx hlk hP (t := .boolean) (by simp) hrt (hb hby at_174) (by decide) (by decide) ⟨rfl, N13⟩
          · refine own_st (fun _ => XS.ifNo X13.here hx rfl (hb hby at_145) rfl ((if0 _ _).trans (feq hc21).1)) ?_
            show own_End p e below P (T13.setTop (mkF m 148 #[.val (.int p0), .val (.int p1), .val (.int p2), .val (.int p3), .val (.int k), .val (.ref op), .val (.int (own_f2 op p1 s_BinaryOperator_AND s_BinaryOperator_OR)), .val (.int v8), .val (.int (own_fapp11 p1 p2)), .val (.int (own_fapp11 p1 p3)), .val (.int (1 : Int32)), .unset] []))
            refine own_st (fun _ => XS.iconst X13.here hx rfl (hb hby at_148)) ?_
            show own_End p e below P (T13.setTop (mkF m 149 #[.val (.int p0), .val (.int p1), .val (.int p2), .val (.int p3), .val (.int k), .val (.ref op), .val (.int (own_f2 op p1 s_BinaryOperator_AND s_BinaryOperator_OR)), .val (.int v8), .val (.int (own_fapp11 p1 p2)), .val (.int (own_fapp11 p1 p3)), .val (.int (1 : Int32)), .unset] [(.int (1 : Int32))]))
            refine own_st (fun _ => XS.goto X13.here hx rfl (pc0 := 149) (pc' := 153) rfl (hb hby at_149) (by decide) (by decide)) ?_
            show own_End p e below P (T13.setTop (mkF m 153 #[.val (.int p0), .val (.int p1), .val (.int p2), .val (.int p3), .val (.int k), .val (.ref op), .val (.int (own_f2 op p1 s_BinaryOperator_AND s_BinaryOperator_OR)), .val (.int v8), .val (.int (own_fapp11 p1 p2)), .val (.int (own_fapp11 p1 p3)), .val (.int (1 : Int32)), .unset] [(.int (1 : Int32))]))
            refine own_st (fun _ => XS.istore X13.here hx rfl (hb hby at_153) rfl (l' := #[.val (.int p0), .val (.int p1), .val (.int p2), .val (.int p3), .val (.int k), .val (.ref op), .val (.int (own_f2 op p1 s_BinaryOperator_AND s_BinaryOperator_OR)), .val (.int v8), .val (.int (own_fapp11 p1 p2)), .val (.int (own_fapp11 p1 p3)), .val (.int (1 : Int32)), .val (.int (1 : Int32))]) rfl) ?_
            show own_End p e below P (T13.setTop (mkF m 155 #[.val (.int p0), .val (.int p1), .val (.int p2), .val (.int p3), .val (.int k), .val (.ref op), .val (.int (own_f2 op p1 s_BinaryOperator_AND s_BinaryOperator_OR)), .val (.int v8), .val (.int (own_fapp11 p1 p2)), .val (.int (own_fapp11 p1 p3)), .val (.int (1 : Int32)), .val (.int (1 : Int32))] []))
            refine own_st (fun _ => XS.iload X13.here hx rfl (hb hby at_155) rfl) ?_
            show own_End p e below P (T13.setTop (mkF m 157 #[.val (.int p0), .val (.int p1), .val (.int p2), .val (.int p3), .val (.int k), .val (.ref op), .val (.int (own_f2 op p1 s_BinaryOperator_AND s_BinaryOperator_OR)), .val (.int v8), .val (.int (own_fapp11 p1 p2)), .val (.int (own_fapp11 p1 p3)), .val (.int (1 : Int32)), .val (.int (1 : Int32))] [(.int (own_fapp11 p1 p2))]))
            refine own_st (fun _ => XS.iload X13.here hx rfl (hb hby at_157) rfl) ?_
            show own_End p e below P (T13.setTop (mkF m 159 #[.val (.int p0), .val (.int p1), .val (.int p2), .val (.int p3), .val (.int k), .val (.ref op), .val (.int (own_f2 op p1 s_BinaryOperator_AND s_BinaryOperator_OR)), .val (.int v8), .val (.int (own_fapp11 p1 p2)), .val (.int (own_fapp11 p1 p3)), .val (.int (1 : Int32)), .val (.int (1 : Int32))] [(.int (1 : Int32)), (.int (own_fapp11 p1 p2))]))
            have hc24 : (own_fapp11 p1 p2) = (1 : Int32) := by rw [own_b11 hd hc14, if_neg hc15]
            refine own_st (fun _ => XS.icmpNo X13.here hx rfl (hb hby at_159) rfl (teq hc24).2) ?_
            show own_End p e below P (T13.setTop (mkF m 162 #[.val (.int p0), .val (.int p1), .val (.int p2), .val (.int p3), .val (.int k), .val (.ref op), .val (.int (own_f2 op p1 s_BinaryOperator_AND s_BinaryOperator_OR)), .val (.int v8), .val (.int (own_fapp11 p1 p2)), .val (.int (own_fapp11 p1 p3)), .val (.int (1 : Int32)), .val (.int (1 : Int32))] []))
            refine own_st (fun _ => XS.iload X13.here hx rfl (hb hby at_162) rfl) ?_
            show own_End p e below P (T13.setTop (mkF m 164 #[.val (.int p0), .val (.int p1), .val (.int p2), .val (.int p3), .val (.int k), .val (.ref op), .val (.int (own_f2 op p1 s_BinaryOperator_AND s_BinaryOperator_OR)), .val (.int v8), .val (.int (own_fapp11 p1 p2)), .val (.int (own_fapp11 p1 p3)), .val (.int (1 : Int32)), .val (.int (1 : Int32))] [(.int (own_fapp11 p1 p3))]))
            refine own_st (fun _ => XS.iload X13.here hx rfl (hb hby at_164) rfl) ?_
            show own_End p e below P (T13.setTop (mkF m 166 #[.val (.int p0), .val (.int p1), .val (.int p2), .val (.int p3), .val (.int k), .val (.ref op), .val (.int (own_f2 op p1 s_BinaryOperator_AND s_BinaryOperator_OR)), .val (.int v8), .val (.int (own_fapp11 p1 p2)), .val (.int (own_fapp11 p1 p3)), .val (.int (1 : Int32)), .val (.int (1 : Int32))] [(.int (1 : Int32)), (.int (own_fapp11 p1 p3))]))
            have hc25 : (own_fapp11 p1 p3) = (1 : Int32) := by rw [own_b11 hd hc14, if_neg hc21]
            refine own_st (fun _ => XS.icmpNo X13.here hx rfl (hb hby at_166) rfl (teq hc25).2) ?_
            show own_End p e below P (T13.setTop (mkF m 169 #[.val (.int p0), .val (.int p1), .val (.int p2), .val (.int p3), .val (.int k), .val (.ref op), .val (.int (own_f2 op p1 s_BinaryOperator_AND s_BinaryOperator_OR)), .val (.int v8), .val (.int (own_fapp11 p1 p2)), .val (.int (own_fapp11 p1 p3)), .val (.int (1 : Int32)), .val (.int (1 : Int32))] []))
            refine own_st (fun _ => XS.iconst X13.here hx rfl (hb hby at_169)) ?_
            show own_End p e below P (T13.setTop (mkF m 170 #[.val (.int p0), .val (.int p1), .val (.int p2), .val (.int p3), .val (.int k), .val (.ref op), .val (.int (own_f2 op p1 s_BinaryOperator_AND s_BinaryOperator_OR)), .val (.int v8), .val (.int (own_fapp11 p1 p2)), .val (.int (own_fapp11 p1 p3)), .val (.int (1 : Int32)), .val (.int (1 : Int32))] [(.int (1 : Int32))]))
            refine own_st (fun _ => XS.goto X13.here hx rfl (pc0 := 170) (pc' := 174) rfl (hb hby at_170) (by decide) (by decide)) ?_
            show own_End p e below P (T13.setTop (mkF m 174 #[.val (.int p0), .val (.int p1), .val (.int p2), .val (.int p3), .val (.int k), .val (.ref op), .val (.int (own_f2 op p1 s_BinaryOperator_AND s_BinaryOperator_OR)), .val (.int v8), .val (.int (own_fapp11 p1 p2)), .val (.int (own_fapp11 p1 p3)), .val (.int (1 : Int32)), .val (.int (1 : Int32))] [(.int (1 : Int32))]))
            exact own_retN X13 hx hlk hP (t := .boolean) (by simp) hrt (hb hby at_174) (by decide) (by decide) ⟨rfl, N13⟩
      · refine own_st (fun _ => XS.ifNo X13.here hx rfl (hb hby at_96) rfl ((if0 _ _).trans (feq hc14).1)) ?_
        show own_End p e below P (T13.setTop (mkF m 99 #[.val (.int p0), .val (.int p1), .val (.int p2), .val (.int p3), .val (.int k), .val (.ref op), .val (.int (own_f2 op p1 s_BinaryOperator_AND s_BinaryOperator_OR)), .val (.int v8), .val (.int (own_fapp11 p1 p2)), .val (.int (own_fapp11 p1 p3)), .unset, .unset] []))
        refine own_st (fun _ => XS.iload X13.here hx rfl (hb hby at_99) rfl) ?_
        show own_End p e below P (T13.setTop (mkF m 101 #[.val (.int p0), .val (.int p1), .val (.int p2), .val (.int p3), .val (.int k), .val (.ref op), .val (.int (own_f2 op p1 s_BinaryOperator_AND s_BinaryOperator_OR)), .val (.int v8), .val (.int (own_fapp11 p1 p2)), .val (.int (own_fapp11 p1 p3)), .unset, .unset] [(.int k)]))
        refine own_st (fun _ => XS.bipush X13.here hx rfl (hb hby at_101)) ?_
        show own_End p e below P (T13.setTop (mkF m 103 #[.val (.int p0), .val (.int p1), .val (.int p2), .val (.int p3), .val (.int k), .val (.ref op), .val (.int (own_f2 op p1 s_BinaryOperator_AND s_BinaryOperator_OR)), .val (.int v8), .val (.int (own_fapp11 p1 p2)), .val (.int (own_fapp11 p1 p3)), .unset, .unset] [(.int (11 : Int32)), (.int k)]))
        refine own_st (fun _ => XS.icmpNo X13.here hx rfl (hb hby at_103) rfl (teq hc11).2) ?_
        show own_End p e below P (T13.setTop (mkF m 106 #[.val (.int p0), .val (.int p1), .val (.int p2), .val (.int p3), .val (.int k), .val (.ref op), .val (.int (own_f2 op p1 s_BinaryOperator_AND s_BinaryOperator_OR)), .val (.int v8), .val (.int (own_fapp11 p1 p2)), .val (.int (own_fapp11 p1 p3)), .unset, .unset] []))
        refine own_st (fun _ => XS.iconst X13.here hx rfl (hb hby at_106)) ?_
        show own_End p e below P (T13.setTop (mkF m 107 #[.val (.int p0), .val (.int p1), .val (.int p2), .val (.int p3), .val (.int k), .val (.ref op), .val (.int (own_f2 op p1 s_BinaryOperator_AND s_BinaryOperator_OR)), .val (.int v8), .val (.int (own_fapp11 p1 p2)), .val (.int (own_fapp11 p1 p3)), .unset, .unset] [(.int (0 : Int32))]))
        refine own_st (fun _ => XS.goto X13.here hx rfl (pc0 := 107) (pc' := 111) rfl (hb hby at_107) (by decide) (by decide)) ?_
        show own_End p e below P (T13.setTop (mkF m 111 #[.val (.int p0), .val (.int p1), .val (.int p2), .val (.int p3), .val (.int k), .val (.ref op), .val (.int (own_f2 op p1 s_BinaryOperator_AND s_BinaryOperator_OR)), .val (.int v8), .val (.int (own_fapp11 p1 p2)), .val (.int (own_fapp11 p1 p3)), .unset, .unset] [(.int (0 : Int32))]))
        refine own_st (fun _ => XS.istore X13.here hx rfl (hb hby at_111) rfl (l' := #[.val (.int p0), .val (.int p1), .val (.int p2), .val (.int p3), .val (.int k), .val (.ref op), .val (.int (own_f2 op p1 s_BinaryOperator_AND s_BinaryOperator_OR)), .val (.int v8), .val (.int (own_fapp11 p1 p2)), .val (.int (own_fapp11 p1 p3)), .val (.int (0 : Int32)), .unset]) rfl) ?_
        show own_End p e below P (T13.setTop (mkF m 113 #[.val (.int p0), .val (.int p1), .val (.int p2), .val (.int p3), .val (.int k), .val (.ref op), .val (.int (own_f2 op p1 s_BinaryOperator_AND s_BinaryOperator_OR)), .val (.int v8), .val (.int (own_fapp11 p1 p2)), .val (.int (own_fapp11 p1 p3)), .val (.int (0 : Int32)), .unset] []))
        refine own_st (fun _ => XS.iload X13.here hx rfl (hb hby at_113) rfl) ?_
        show own_End p e below P (T13.setTop (mkF m 115 #[.val (.int p0), .val (.int p1), .val (.int p2), .val (.int p3), .val (.int k), .val (.ref op), .val (.int (own_f2 op p1 s_BinaryOperator_AND s_BinaryOperator_OR)), .val (.int v8), .val (.int (own_fapp11 p1 p2)), .val (.int (own_fapp11 p1 p3)), .val (.int (0 : Int32)), .unset] [(.int (own_fapp11 p1 p2))]))
        refine own_st (fun _ => XS.iload X13.here hx rfl (hb hby at_115) rfl) ?_
        show own_End p e below P (T13.setTop (mkF m 117 #[.val (.int p0), .val (.int p1), .val (.int p2), .val (.int p3), .val (.int k), .val (.ref op), .val (.int (own_f2 op p1 s_BinaryOperator_AND s_BinaryOperator_OR)), .val (.int v8), .val (.int (own_fapp11 p1 p2)), .val (.int (own_fapp11 p1 p3)), .val (.int (0 : Int32)), .unset] [(.int (0 : Int32)), (.int (own_fapp11 p1 p2))]))
        have hc26 : (own_fapp11 p1 p2) = (0 : Int32) := by exact own_a11 hd hc14
        refine own_st (fun _ => XS.icmpNo X13.here hx rfl (hb hby at_117) rfl (teq hc26).2) ?_
        show own_End p e below P (T13.setTop (mkF m 120 #[.val (.int p0), .val (.int p1), .val (.int p2), .val (.int p3), .val (.int k), .val (.ref op), .val (.int (own_f2 op p1 s_BinaryOperator_AND s_BinaryOperator_OR)), .val (.int v8), .val (.int (own_fapp11 p1 p2)), .val (.int (own_fapp11 p1 p3)), .val (.int (0 : Int32)), .unset] []))
        refine own_st (fun _ => XS.iload X13.here hx rfl (hb hby at_120) rfl) ?_
        show own_End p e below P (T13.setTop (mkF m 122 #[.val (.int p0), .val (.int p1), .val (.int p2), .val (.int p3), .val (.int k), .val (.ref op), .val (.int (own_f2 op p1 s_BinaryOperator_AND s_BinaryOperator_OR)), .val (.int v8), .val (.int (own_fapp11 p1 p2)), .val (.int (own_fapp11 p1 p3)), .val (.int (0 : Int32)), .unset] [(.int (own_fapp11 p1 p3))]))
        refine own_st (fun _ => XS.iload X13.here hx rfl (hb hby at_122) rfl) ?_
        show own_End p e below P (T13.setTop (mkF m 124 #[.val (.int p0), .val (.int p1), .val (.int p2), .val (.int p3), .val (.int k), .val (.ref op), .val (.int (own_f2 op p1 s_BinaryOperator_AND s_BinaryOperator_OR)), .val (.int v8), .val (.int (own_fapp11 p1 p2)), .val (.int (own_fapp11 p1 p3)), .val (.int (0 : Int32)), .unset] [(.int (0 : Int32)), (.int (own_fapp11 p1 p3))]))
        have hc27 : (own_fapp11 p1 p3) = (0 : Int32) := by exact own_a11 hd hc14
        refine own_st (fun _ => XS.icmpNo X13.here hx rfl (hb hby at_124) rfl (teq hc27).2) ?_
        show own_End p e below P (T13.setTop (mkF m 127 #[.val (.int p0), .val (.int p1), .val (.int p2), .val (.int p3), .val (.int k), .val (.ref op), .val (.int (own_f2 op p1 s_BinaryOperator_AND s_BinaryOperator_OR)), .val (.int v8), .val (.int (own_fapp11 p1 p2)), .val (.int (own_fapp11 p1 p3)), .val (.int (0 : Int32)), .unset] []))
        refine own_st (fun _ => XS.iconst X13.here hx rfl (hb hby at_127)) ?_
        show own_End p e below P (T13.setTop (mkF m 128 #[.val (.int p0), .val (.int p1), .val (.int p2), .val (.int p3), .val (.int k), .val (.ref op), .val (.int (own_f2 op p1 s_BinaryOperator_AND s_BinaryOperator_OR)), .val (.int v8), .val (.int (own_fapp11 p1 p2)), .val (.int (own_fapp11 p1 p3)), .val (.int (0 : Int32)), .unset] [(.int (1 : Int32))]))
        refine own_st (fun _ => XS.goto X13.here hx rfl (pc0 := 128) (pc' := 132) rfl (hb hby at_128) (by decide) (by decide)) ?_
        show own_End p e below P (T13.setTop (mkF m 132 #[.val (.int p0), .val (.int p1), .val (.int p2), .val (.int p3), .val (.int k), .val (.ref op), .val (.int (own_f2 op p1 s_BinaryOperator_AND s_BinaryOperator_OR)), .val (.int v8), .val (.int (own_fapp11 p1 p2)), .val (.int (own_fapp11 p1 p3)), .val (.int (0 : Int32)), .unset] [(.int (1 : Int32))]))
        exact own_retN X13 hx hlk hP (t := .boolean) (by simp) hrt (hb hby at_132) (by decide) (by decide) ⟨rfl, N13⟩
    · refine own_st (fun _ => XS.icmpNo X2.here hx rfl (hb hby at_66) rfl (feq hc11).1) ?_
      show own_End p e below P (T2.setTop (mkF m 69 #[.val (.int p0), .val (.int p1), .val (.int p2), .val (.int p3), .val (.int k), .val (.ref op), .val (.int (own_f2 op p1 s_BinaryOperator_AND s_BinaryOperator_OR)), .val (.int v8), .unset, .unset, .unset, .unset] []))
      refine own_st (fun _ => XS.iload X2.here hx rfl (hb hby at_69) rfl) ?_
      show own_End p e below P (T2.setTop (mkF m 71 #[.val (.int p0), .val (.int p1), .val (.int p2), .val (.int p3), .val (.int k), .val (.ref op), .val (.int (own_f2 op p1 s_BinaryOperator_AND s_BinaryOperator_OR)), .val (.int v8), .unset, .unset, .unset, .unset] [(.int k)]))
      refine own_st (fun _ => XS.bipush X2.here hx rfl (hb hby at_71)) ?_
      show own_End p e below P (T2.setTop (mkF m 73 #[.val (.int p0), .val (.int p1), .val (.int p2), .val (.int p3), .val (.int k), .val (.ref op), .val (.int (own_f2 op p1 s_BinaryOperator_AND s_BinaryOperator_OR)), .val (.int v8), .unset, .unset, .unset, .unset] [(.int (12 : Int32)), (.int k)]))
      by_cases hc28 : k = (12 : Int32)
      · refine own_st (fun _ => XS.icmpNo X2.here hx rfl (hb hby at_73) rfl (teq hc28).2) ?_
        show own_End p e below P (T2.setTop (mkF m 76 #[.val (.int p0), .val (.int p1), .val (.int p2), .val (.int p3), .val (.int k), .val (.ref op), .val (.int (own_f2 op p1 s_BinaryOperator_AND s_BinaryOperator_OR)), .val (.int v8), .unset, .unset, .unset, .unset] []))
        have Fop12 : Fld Z h0 op "java/lang/Enum" "ordinal" "I" (.int (12 : Int32)) := by rw [← hc28]; exact Fop
        have hd : own_f2 op p1 s_BinaryOperator_AND s_BinaryOperator_OR = (if p1 = (0 : Int32) then (0 : Int32) else (1 : Int32)) := own_dec hAND hOR (by rw [hc28]; simp)
        have neDIVIDE : op ≠ s_BinaryOperator_DIVIDE := Fld.ne Fop12 F_s_BinaryOperator_DIVIDE_ordinal (by simp)
        have neREMAINDER : op ≠ s_BinaryOperator_REMAINDER := Fld.ne Fop12 F_s_BinaryOperator_REMAINDER_ordinal (by simp)
        refine own_st (fun _ => XS.aload X2.here hx rfl (hb hby at_76) rfl rfl) ?_
        show own_End p e below P (T2.setTop (mkF m 78 #[.val (.int p0), .val (.int p1), .val (.int p2), .val (.int p3), .val (.int k), .val (.ref op), .val (.int (own_f2 op p1 s_BinaryOperator_AND s_BinaryOperator_OR)), .val (.int v8), .unset, .unset, .unset, .unset] [(.ref op)]))
        refine own_st (fun _ => XS.iloadN X2.here hx rfl (hb hby at_78) rfl) ?_
        show own_End p e below P (T2.setTop (mkF m 79 #[.val (.int p0), .val (.int p1), .val (.int p2), .val (.int p3), .val (.int k), .val (.ref op), .val (.int (own_f2 op p1 s_BinaryOperator_AND s_BinaryOperator_OR)), .val (.int v8), .unset, .unset, .unset, .unset] [(.int p1), (.ref op)]))
        refine own_st (fun _ => XS.iloadN X2.here hx rfl (hb hby at_79) rfl) ?_
        show own_End p e below P (T2.setTop (mkF m 80 #[.val (.int p0), .val (.int p1), .val (.int p2), .val (.int p3), .val (.int k), .val (.ref op), .val (.int (own_f2 op p1 s_BinaryOperator_AND s_BinaryOperator_OR)), .val (.int v8), .unset, .unset, .unset, .unset] [(.int p2), (.int p1), (.ref op)]))
        refine own_callV X2 hx hZ (y := (⟨"com/example/interleaving_explorer/interleavingexplorer/lang/BinaryOperator", "apply", "(II)I"⟩ : MethodName)) (z := (⟨"com/example/interleaving_explorer/interleavingexplorer/lang/BinaryOperator", "apply", "(II)I"⟩ : MethodName)) hown (hw _ (List.mem_of_getElem? (i := 18) rfl)) (hw _ (List.mem_of_getElem? (i := 19) rfl)) (notFace_of_selects (args := #[]) (mvT hZ (hw _ (List.mem_of_getElem? (i := 21) rfl)))) (hw _ (List.mem_of_getElem? (i := 21) rfl)) (hw _ (List.mem_of_getElem? (i := 20) rfl)) (hw _ (List.mem_of_getElem? (i := 6) rfl)) (hw _ (List.mem_of_getElem? (i := 22) rfl)) (by decide) Eop (own_mapp12 l Z a0 hw [] op p1 p2 s_BinaryOperator_DIVIDE s_BinaryOperator_REMAINDER h0 n0 Z0 Eop Fop12 S_BinaryOperator_DIVIDE S_BinaryOperator_REMAINDER neDIVIDE neREMAINDER) 0 (by decide) (by decide) eq2 (by decide) (by decide) (g := (mkF m 80 #[.val (.int p0), .val (.int p1), .val (.int p2), .val (.int p3), .val (.int k), .val (.ref op), .val (.int (own_f2 op p1 s_BinaryOperator_AND s_BinaryOperator_OR)), .val (.int v8), .unset, .unset, .unset, .unset] [(.int p2), (.int p1), (.ref op)])) rfl (by rw [hml']; rfl) (argsL := [(.int p1), (.int p2)]) (rest := []) rfl (lenOf own_pd_II_I_300 rfl) rfl (by show 2 * 0 + _ ≤ _; exact Nat.le_of_eq rfl) (hb hby at_80) (fun r29 T29 L29 X29 hQ29 => ?_)
        obtain ⟨rfl, Nq29, eq29⟩ := hQ29
        have N29 := Fr.app N2 Nq29
        show own_End p e below P (T29.setTop (mkF m 83 #[.val (.int p0), .val (.int p1), .val (.int p2), .val (.int p3), .val (.int k), .val (.ref op), .val (.int (own_f2 op p1 s_BinaryOperator_AND s_BinaryOperator_OR)), .val (.int v8), .unset, .unset, .unset, .unset] [(.int (own_fapp12 p1 p2))]))
        refine own_st (fun _ => XS.istore X29.here hx rfl (hb hby at_83) rfl (l' := #[.val (.int p0), .val (.int p1), .val (.int p2), .val (.int p3), .val (.int k), .val (.ref op), .val (.int (own_f2 op p1 s_BinaryOperator_AND s_BinaryOperator_OR)), .val (.int v8), .val (.int (own_fapp12 p1 p2)), .unset, .unset, .unset]) rfl) ?_
        show own_End p e below P (T29.setTop (mkF m 85 #[.val (.int p0), .val (.int p1), .val (.int p2), .val (.int p3), .val (.int k), .val (.ref op), .val (.int (own_f2 op p1 s_BinaryOperator_AND s_BinaryOperator_OR)), .val (.int v8), .val (.int (own_fapp12 p1 p2)), .unset, .unset, .unset] []))
        refine own_st (fun _ => XS.aload X29.here hx rfl (hb hby at_85) rfl rfl) ?_
        show own_End p e below P (T29.setTop (mkF m 87 #[.val (.int p0), .val (.int p1), .val (.int p2), .val (.int p3), .val (.int k), .val (.ref op), .val (.int (own_f2 op p1 s_BinaryOperator_AND s_BinaryOperator_OR)), .val (.int v8), .val (.int (own_fapp12 p1 p2)), .unset, .unset, .unset] [(.ref op)]))
        refine own_st (fun _ => XS.iloadN X29.here hx rfl (hb hby at_87) rfl) ?_
        show own_End p e below P (T29.setTop (mkF m 88 #[.val (.int p0), .val (.int p1), .val (.int p2), .val (.int p3), .val (.int k), .val (.ref op), .val (.int (own_f2 op p1 s_BinaryOperator_AND s_BinaryOperator_OR)), .val (.int v8), .val (.int (own_fapp12 p1 p2)), .unset, .unset, .unset] [(.int p1), (.ref op)]))
        refine own_st (fun _ => XS.iloadN X29.here hx rfl (hb hby at_88) rfl) ?_
        show own_End p e below P (T29.setTop (mkF m 89 #[.val (.int p0), .val (.int p1), .val (.int p2), .val (.int p3), .val (.int k), .val (.ref op), .val (.int (own_f2 op p1 s_BinaryOperator_AND s_BinaryOperator_OR)), .val (.int v8), .val (.int (own_fapp12 p1 p2)), .unset, .unset, .unset] [(.int p3), (.int p1), (.ref op)]))
        refine own_callV X29 hx hZ (y := (⟨"com/example/interleaving_explorer/interleavingexplorer/lang/BinaryOperator", "apply", "(II)I"⟩ : MethodName)) (z := (⟨"com/example/interleaving_explorer/interleavingexplorer/lang/BinaryOperator", "apply", "(II)I"⟩ : MethodName)) hown (hw _ (List.mem_of_getElem? (i := 18) rfl)) (hw _ (List.mem_of_getElem? (i := 19) rfl)) (notFace_of_selects (args := #[]) (mvT hZ (hw _ (List.mem_of_getElem? (i := 21) rfl)))) (hw _ (List.mem_of_getElem? (i := 21) rfl)) (hw _ (List.mem_of_getElem? (i := 20) rfl)) (hw _ (List.mem_of_getElem? (i := 6) rfl)) (hw _ (List.mem_of_getElem? (i := 22) rfl)) (by decide) Eop (own_mapp12 l Z a0 hw [] op p1 p3 s_BinaryOperator_DIVIDE s_BinaryOperator_REMAINDER h0 n0 Z0 Eop Fop12 S_BinaryOperator_DIVIDE S_BinaryOperator_REMAINDER neDIVIDE neREMAINDER) 0 (by decide) (by decide) eq29 (by decide) (by decide) (g := (mkF m 89 #[.val (.int p0), .val (.int p1), .val (.int p2), .val (.int p3), .val (.int k), .val (.ref op), .val (.int (own_f2 op p1 s_BinaryOperator_AND s_BinaryOperator_OR)), .val (.int v8), .val (.int (own_fapp12 p1 p2)), .unset, .unset, .unset] [(.int p3), (.int p1), (.ref op)])) rfl (by rw [hml']; rfl) (argsL := [(.int p1), (.int p3)]) (rest := []) rfl (lenOf own_pd_II_I_300 rfl) rfl (by show 2 * 0 + _ ≤ _; exact Nat.le_of_eq rfl) (hb hby at_89) (fun r30 T30 L30 X30 hQ30 => ?_)
        obtain ⟨rfl, Nq30, eq30⟩ := hQ30
        have N30 := Fr.app N29 Nq30
        show own_End p e below P (T30.setTop (mkF m 92 #[.val (.int p0), .val (.int p1), .val (.int p2), .val (.int p3), .val (.int k), .val (.ref op), .val (.int (own_f2 op p1 s_BinaryOperator_AND s_BinaryOperator_OR)), .val (.int v8), .val (.int (own_fapp12 p1 p2)), .unset, .unset, .unset] [(.int (own_fapp12 p1 p3))]))
        refine own_st (fun _ => XS.istore X30.here hx rfl (hb hby at_92) rfl (l' := #[.val (.int p0), .val (.int p1), .val (.int p2), .val (.int p3), .val (.int k), .val (.ref op), .val (.int (own_f2 op p1 s_BinaryOperator_AND s_BinaryOperator_OR)), .val (.int v8), .val (.int (own_fapp12 p1 p2)), .val (.int (own_fapp12 p1 p3)), .unset, .unset]) rfl) ?_
        show own_End p e below P (T30.setTop (mkF m 94 #[.val (.int p0), .val (.int p1), .val (.int p2), .val (.int p3), .val (.int k), .val (.ref op), .val (.int (own_f2 op p1 s_BinaryOperator_AND s_BinaryOperator_OR)), .val (.int v8), .val (.int (own_fapp12 p1 p2)), .val (.int (own_fapp12 p1 p3)), .unset, .unset] []))
        refine own_st (fun _ => XS.iload X30.here hx rfl (hb hby at_94) rfl) ?_
        show own_End p e below P (T30.setTop (mkF m 96 #[.val (.int p0), .val (.int p1), .val (.int p2), .val (.int p3), .val (.int k), .val (.ref op), .val (.int (own_f2 op p1 s_BinaryOperator_AND s_BinaryOperator_OR)), .val (.int v8), .val (.int (own_fapp12 p1 p2)), .val (.int (own_fapp12 p1 p3)), .unset, .unset] [(.int (own_f2 op p1 s_BinaryOperator_AND s_BinaryOperator_OR))]))
        by_cases hc31 : (own_f2 op p1 s_BinaryOperator_AND s_BinaryOperator_OR) = (0 : Int32)
        · refine own_st (fun _ => XS.ifYes X30.here hx rfl (pc0 := 96) (pc' := 133) rfl (hb hby at_96) rfl ((if0 _ _).trans (teq hc31).1) (by decide) (by decide)) ?_
          show own_End p e below P (T30.setTop (mkF m 133 #[.val (.int p0), .val (.int p1), .val (.int p2), .val (.int p3), .val (.int k), .val (.ref op), .val (.int (own_f2 op p1 s_BinaryOperator_AND s_BinaryOperator_OR)), .val (.int v8), .val (.int (own_fapp12 p1 p2)), .val (.int (own_fapp12 p1 p3)), .unset, .unset] []))
          refine own_st (fun _ => XS.iloadN X30.here hx rfl (hb hby at_133) rfl) ?_
          show own_End p e below P (T30.setTop (mkF m 134 #[.val (.int p0), .val (.int p1), .val (.int p2), .val (.int p3), .val (.int k), .val (.ref op), .val (.int (own_f2 op p1 s_BinaryOperator_AND s_BinaryOperator_OR)), .val (.int v8), .val (.int (own_fapp12 p1 p2)), .val (.int (own_fapp12 p1 p3)), .unset, .unset] [(.int p2)]))
          by_cases hc32 : p2 = (0 : Int32)
          · refine own_st (fun _ => XS.ifYes X30.here hx rfl (pc0 := 134) (pc' := 141) rfl (hb hby at_134) rfl ((if0 _ _).trans (teq hc32).1) (by decide) (by decide)) ?_
            show own_End p e below P (T30.setTop (mkF m 141 #[.val (.int p0), .val (.int p1), .val (.int p2), .val (.int p3), .val (.int k), .val (.ref op), .val (.int (own_f2 op p1 s_BinaryOperator_AND s_BinaryOperator_OR)), .val (.int v8), .val (.int (own_fapp12 p1 p2)), .val (.int (own_fapp12 p1 p3)), .unset, .unset] []))
            refine own_st (fun _ => XS.iconst X30.here hx rfl (hb hby at_141)) ?_
            show own_End p e below P (T30.setTop (mkF m 142 #[.val (.int p0), .val (.int p1), .val (.int p2), .val (.int p3), .val (.int k), .val (.ref op), .val (.int (own_f2 op p1 s_BinaryOperator_AND s_BinaryOperator_OR)), .val (.int v8), .val (.int (own_fapp12 p1 p2)), .val (.int (own_fapp12 p1 p3)), .unset, .unset] [(.int (0 : Int32))]))
            refine own_st (fun _ => XS.istore X30.here hx rfl (hb hby at_142) rfl (l' := #[.val (.int p0), .val (.int p1), .val (.int p2), .val (.int p3), .val (.int k), .val (.ref op), .val (.int (own_f2 op p1 s_BinaryOperator_AND s_BinaryOperator_OR)), .val (.int v8), .val (.int (own_fapp12 p1 p2)), .val (.int (own_fapp12 p1 p3)), .val (.int (0 : Int32)), .unset]) rfl) ?_
            show own_End p e below P (T30.setTop (mkF m 144 #[.val (.int p0), .val (.int p1), .val (.int p2), .val (.int p3), .val (.int k), .val (.ref op), .val (.int (own_f2 op p1 s_BinaryOperator_AND s_BinaryOperator_OR)), .val (.int v8), .val (.int (own_fapp12 p1 p2)), .val (.int (own_fapp12 p1 p3)), .val (.int (0 : Int32)), .unset] []))
            refine own_st (fun _ => XS.iloadN X30.here hx rfl (hb hby at_144) rfl) ?_
            show own_End p e below P (T30.setTop (mkF m 145 #[.val (.int p0), .val (.int p1), .val (.int p2), .val (.int p3), .val (.int k), .val (.ref op), .val (.int (own_f2 op p1 s_BinaryOperator_AND s_BinaryOperator_OR)), .val (.int v8), .val (.int (own_fapp12 p1 p2)), .val (.int (own_fapp12 p1 p3)), .val (.int (0 : Int32)), .unset] [(.int p3)]))
            by_cases hc33 : p3 = (0 : Int32)
            · refine own_st (fun _ => XS.ifYes X30.here hx rfl (pc0 := 145) (pc' := 152) rfl (hb hby at_145) rfl ((if0 _ _).trans (teq hc33).1) (by decide) (by decide)) ?_
              show own_End p e below P (T30.setTop (mkF m 152 #[.val (.int p0), .val (.int p1), .val (.int p2), .val (.int p3), .val (.int k), .val (.ref op), .val (.int (own_f2 op p1 s_BinaryOperator_AND s_BinaryOperator_OR)), .val (.int v8), .val (.int (own_fapp12 p1 p2)), .val (.int (own_fapp12 p1 p3)), .val (.int (0 : Int32)), .unset] []))
              refine own_st (fun _ => XS.iconst X30.here hx rfl (hb hby at_152)) ?_
              show own_End p e below P (T30.setTop (mkF m 153 #[.val (.int p0), .val (.int p1), .val (.int p2), .val (.int p3), .val (.int k), .val (.ref op), .val (.int (own_f2 op p1 s_BinaryOperator_AND s_BinaryOperator_OR)), .val (.int v8), .val (.int (own_fapp12 p1 p2)), .val (.int (own_fapp12 p1 p3)), .val (.int (0 : Int32)), .unset] [(.int (0 : Int32))]))
              refine own_st (fun _ => XS.istore X30.here hx rfl (hb hby at_153) rfl (l' := #[.val (.int p0), .val (.int p1), .val (.int p2), .val (.int p3), .val (.int k), .val (.ref op), .val (.int (own_f2 op p1 s_BinaryOperator_AND s_BinaryOperator_OR)), .val (.int v8), .val (.int (own_fapp12 p1 p2)), .val (.int (own_fapp12 p1 p3)), .val (.int (0 : Int32)), .val (.int (0 : Int32))]) rfl) ?_
              show own_End p e below P (T30.setTop (mkF m 155 #[.val (.int p0), .val (.int p1), .val (.int p2), .val (.int p3), .val (.int k), .val (.ref op), .val (.int (own_f2 op p1 s_BinaryOperator_AND s_BinaryOperator_OR)), .val (.int v8), .val (.int (own_fapp12 p1 p2)), .val (.int (own_fapp12 p1 p3)), .val (.int (0 : Int32)), .val (.int (0 : Int32))] []))
              refine own_st (fun _ => XS.iload X30.here hx rfl (hb hby at_155) rfl) ?_
              show own_End p e below P (T30.setTop (mkF m 157 #[.val (.int p0), .val (.int p1), .val (.int p2), .val (.int p3), .val (.int k), .val (.ref op), .val (.int (own_f2 op p1 s_BinaryOperator_AND s_BinaryOperator_OR)), .val (.int v8), .val (.int (own_fapp12 p1 p2)), .val (.int (own_fapp12 p1 p3)), .val (.int (0 : Int32)), .val (.int (0 : Int32))] [(.int (own_fapp12 p1 p2))]))
              refine own_st (fun _ => XS.iload X30.here hx rfl (hb hby at_157) rfl) ?_
              show own_End p e below P (T30.setTop (mkF m 159 #[.val (.int p0), .val (.int p1), .val (.int p2), .val (.int p3), .val (.int k), .val (.ref op), .val (.int (own_f2 op p1 s_BinaryOperator_AND s_BinaryOperator_OR)), .val (.int v8), .val (.int (own_fapp12 p1 p2)), .val (.int (own_fapp12 p1 p3)), .val (.int (0 : Int32)), .val (.int (0 : Int32))] [(.int (0 : Int32)), (.int (own_fapp12 p1 p2))]))
              have hc34 : (own_fapp12 p1 p2) = (0 : Int32) := by rw [own_b12 hd hc31, if_pos hc32]
              refine own_st (fun _ => XS.icmpNo X30.here hx rfl (hb hby at_159) rfl (teq hc34).2) ?_
              show own_End p e below P (T30.setTop (mkF m 162 #[.val (.int p0), .val (.int p1), .val (.int p2), .val (.int p3), .val (.int k), .val (.ref op), .val (.int (own_f2 op p1 s_BinaryOperator_AND s_BinaryOperator_OR)), .val (.int v8), .val (.int (own_fapp12 p1 p2)), .val (.int (own_fapp12 p1 p3)), .val (.int (0 : Int32)), .val (.int (0 : Int32))] []))
              refine own_st (fun _ => XS.iload X30.here hx rfl (hb hby at_162) rfl) ?_
              show own_End p e below P (T30.setTop (mkF m 164 #[.val (.int p0), .val (.int p1), .val (.int p2), .val (.int p3), .val (.int k), .val (.ref op), .val (.int (own_f2 op p1 s_BinaryOperator_AND s_BinaryOperator_OR)), .val (.int v8), .val (.int (own_fapp12 p1 p2)), .val (.int (own_fapp12 p1 p3)), .val (.int (0 : Int32)), .val (.int (0 : Int32))] [(.int (own_fapp12 p1 p3))]))
              refine own_st (fun _ => XS.iload X30.here hx rfl (hb hby at_164) rfl) ?_
              show own_End p e below P (T30.setTop (mkF m 166 #[.val (.int p0), .val (.int p1), .val (.int p2), .val (.int p3), .val (.int k), .val (.ref op), .val (.int (own_f2 op p1 s_BinaryOperator_AND s_BinaryOperator_OR)), .val (.int v8), .val (.int (own_fapp12 p1 p2)), .val (.int (own_fapp12 p1 p3)), .val (.int (0 : Int32)), .val (.int (0 : Int32))] [(.int (0 : Int32)), (.int (own_fapp12 p1 p3))]))
              have hc35 : (own_fapp12 p1 p3) = (0 : Int32) := by rw [own_b12 hd hc31, if_pos hc33]
              refine own_st (fun _ => XS.icmpNo X30.here hx rfl (hb hby at_166) rfl (teq hc35).2) ?_
              show own_End p e below P (T30.setTop (mkF m 169 #[.val (.int p0), .val (.int p1), .val (.int p2), .val (.int p3), .val (.int k), .val (.ref op), .val (.int (own_f2 op p1 s_BinaryOperator_AND s_BinaryOperator_OR)), .val (.int v8), .val (.int (own_fapp12 p1 p2)), .val (.int (own_fapp12 p1 p3)), .val (.int (0 : Int32)), .val (.int (0 : Int32))] []))
              refine own_st (fun _ => XS.iconst X30.here hx rfl (hb hby at_169)) ?_
              show own_End p e below P (T30.setTop (mkF m 170 #[.val (.int p0), .val (.int p1), .val (.int p2), .val (.int p3), .val (.int k), .val (.ref op), .val (.int (own_f2 op p1 s_BinaryOperator_AND s_BinaryOperator_OR)), .val (.int v8), .val (.int (own_fapp12 p1 p2)), .val (.int (own_fapp12 p1 p3)), .val (.int (0 : Int32)), .val (.int (0 : Int32))] [(.int (1 : Int32))]))
              refine own_st (fun _ => XS.goto X30.here hx rfl (pc0 := 170) (pc' := 174) rfl (hb hby at_170) (by decide) (by decide)) ?_
              show own_End p e below P (T30.setTop (mkF m 174 #[.val (.int p0), .val (.int p1), .val (.int p2), .val (.int p3), .val (.int k), .val (.ref op), .val (.int (own_f2 op p1 s_BinaryOperator_AND s_BinaryOperator_OR)), .val (.int v8), .val (.int (own_fapp12 p1 p2)), .val (.int (own_fapp12 p1 p3)), .val (.int (0 : Int32)), .val (.int (0 : Int32))] [(.int (1 : Int32))]))
              exact own_retN X30 hx hlk hP (t := .boolean) (by simp) hrt (hb hby at_174) (by decide) (by decide) ⟨rfl, N30⟩
            · refine own_st (fun _ => XS.ifNo X30.here hx rfl (hb hby at_145) rfl ((if0 _ _).trans (feq hc33).1)) ?_
              show own_End p e below P (T30.setTop (mkF m 148 #[.val (.int p0), .val (.int p1), .val (.int p2), .val (.int p3), .val (.int k), .val (.ref op), .val (.int (own_f2 op p1 s_BinaryOperator_AND s_BinaryOperator_OR)), .val (.int v8), .val (.int (own_fapp12 p1 p2)), .val (.int (own_fapp12 p1 p3)), .val (.int (0 : Int32)), .unset] []))
              refine own_st (fun _ => XS.iconst X30.here hx rfl (hb hby at_148)) ?_
              show own_End p e below P (T30.setTop (mkF m 149 #[.val (.int p0), .val (.int p1), .val (.int p2), .val (.int p3), .val (.int k), .val (.ref op), .val (.int (own_f2 op p1 s_BinaryOperator_AND s_BinaryOperator_OR)), .val (.int v8), .val (.int (own_fapp12 p1 p2)), .val (.int (own_fapp12 p1 p3)), .val (.int (0 : Int32)), .unset] [(.int (1 : Int32))]))
              refine own_st (fun _ => XS.goto X30.here hx rfl (pc0 := 149) (pc' := 153) rfl (hb hby at_149) (by decide) (by decide)) ?_
              show own_End p e below P (T30.setTop (mkF m 153 #[.val (.int p0), .val (.int p1), .val (.int p2), .val (.int p3), .val (.int k), .val (.ref op), .val (.int (own_f2 op p1 s_BinaryOperator_AND s_BinaryOperator_OR)), .val (.int v8), .val (.int (own_fapp12 p1 p2)), .val (.int (own_fapp12 p1 p3)), .val (.int (0 : Int32)), .unset] [(.int (1 : Int32))]))
              refine own_st (fun _ => XS.istore X30.here hx rfl (hb hby at_153) rfl (l' := #[.val (.int p0), .val (.int p1), .val (.int p2), .val (.int p3), .val (.int k), .val (.ref op), .val (.int (own_f2 op p1 s_BinaryOperator_AND s_BinaryOperator_OR)), .val (.int v8), .val (.int (own_fapp12 p1 p2)), .val (.int (own_fapp12 p1 p3)), .val (.int (0 : Int32)), .val (.int (1 : Int32))]) rfl) ?_
              show own_End p e below P (T30.setTop (mkF m 155 #[.val (.int p0), .val (.int p1), .val (.int p2), .val (.int p3), .val (.int k), .val (.ref op), .val (.int (own_f2 op p1 s_BinaryOperator_AND s_BinaryOperator_OR)), .val (.int v8), .val (.int (own_fapp12 p1 p2)), .val (.int (own_fapp12 p1 p3)), .val (.int (0 : Int32)), .val (.int (1 : Int32))] []))
              refine own_st (fun _ => XS.iload X30.here hx rfl (hb hby at_155) rfl) ?_
              show own_End p e below P (T30.setTop (mkF m 157 #[.val (.int p0), .val (.int p1), .val (.int p2), .val (.int p3), .val (.int k), .val (.ref op), .val (.int (own_f2 op p1 s_BinaryOperator_AND s_BinaryOperator_OR)), .val (.int v8), .val (.int (own_fapp12 p1 p2)), .val (.int (own_fapp12 p1 p3)), .val (.int (0 : Int32)), .val (.int (1 : Int32))] [(.int (own_fapp12 p1 p2))]))
              refine own_st (fun _ => XS.iload X30.here hx rfl (hb hby at_157) rfl) ?_
              show own_End p e below P (T30.setTop (mkF m 159 #[.val (.int p0), .val (.int p1), .val (.int p2), .val (.int p3), .val (.int k), .val (.ref op), .val (.int (own_f2 op p1 s_BinaryOperator_AND s_BinaryOperator_OR)), .val (.int v8), .val (.int (own_fapp12 p1 p2)), .val (.int (own_fapp12 p1 p3)), .val (.int (0 : Int32)), .val (.int (1 : Int32))] [(.int (0 : Int32)), (.int (own_fapp12 p1 p2))]))
              have hc36 : (own_fapp12 p1 p2) = (0 : Int32) := by rw [own_b12 hd hc31, if_pos hc32]
              refine own_st (fun _ => XS.icmpNo X30.here hx rfl (hb hby at_159) rfl (teq hc36).2) ?_
              show own_End p e below P (T30.setTop (mkF m 162 #[.val (.int p0), .val (.int p1), .val (.int p2), .val (.int p3), .val (.int k), .val (.ref op), .val (.int (own_f2 op p1 s_BinaryOperator_AND s_BinaryOperator_OR)), .val (.int v8), .val (.int (own_fapp12 p1 p2)), .val (.int (own_fapp12 p1 p3)), .val (.int (0 : Int32)), .val (.int (1 : Int32))] []))
              refine own_st (fun _ => XS.iload X30.here hx rfl (hb hby at_162) rfl) ?_
              show own_End p e below P (T30.setTop (mkF m 164 #[.val (.int p0), .val (.int p1), .val (.int p2), .val (.int p3), .val (.int k), .val (.ref op), .val (.int (own_f2 op p1 s_BinaryOperator_AND s_BinaryOperator_OR)), .val (.int v8), .val (.int (own_fapp12 p1 p2)), .val (.int (own_fapp12 p1 p3)), .val (.int (0 : Int32)), .val (.int (1 : Int32))] [(.int (own_fapp12 p1 p3))]))
              refine own_st (fun _ => XS.iload X30.here hx rfl (hb hby at_164) rfl) ?_
              show own_End p e below P (T30.setTop (mkF m 166 #[.val (.int p0), .val (.int p1), .val (.int p2), .val (.int p3), .val (.int k), .val (.ref op), .val (.int (own_f2 op p1 s_BinaryOperator_AND s_BinaryOperator_OR)), .val (.int v8), .val (.int (own_fapp12 p1 p2)), .val (.int (own_fapp12 p1 p3)), .val (.int (0 : Int32)), .val (.int (1 : Int32))] [(.int (1 : Int32)), (.int (own_fapp12 p1 p3))]))
              have hc37 : (own_fapp12 p1 p3) = (1 : Int32) := by rw [own_b12 hd hc31, if_neg hc33]
              refine own_st (fun _ => XS.icmpNo X30.here hx rfl (hb hby at_166) rfl (teq hc37).2) ?_
              show own_End p e below P (T30.setTop (mkF m 169 #[.val (.int p0), .val (.int p1), .val (.int p2), .val (.int p3), .val (.int k), .val (.ref op), .val (.int (own_f2 op p1 s_BinaryOperator_AND s_BinaryOperator_OR)), .val (.int v8), .val (.int (own_fapp12 p1 p2)), .val (.int (own_fapp12 p1 p3)), .val (.int (0 : Int32)), .val (.int (1 : Int32))] []))
              refine own_st (fun _ => XS.iconst X30.here hx rfl (hb hby at_169)) ?_
              show own_End p e below P (T30.setTop (mkF m 170 #[.val (.int p0), .val (.int p1), .val (.int p2), .val (.int p3), .val (.int k), .val (.ref op), .val (.int (own_f2 op p1 s_BinaryOperator_AND s_BinaryOperator_OR)), .val (.int v8), .val (.int (own_fapp12 p1 p2)), .val (.int (own_fapp12 p1 p3)), .val (.int (0 : Int32)), .val (.int (1 : Int32))] [(.int (1 : Int32))]))
              refine own_st (fun _ => XS.goto X30.here hx rfl (pc0 := 170) (pc' := 174) rfl (hb hby at_170) (by decide) (by decide)) ?_
              show own_End p e below P (T30.setTop (mkF m 174 #[.val (.int p0), .val (.int p1), .val (.int p2), .val (.int p3), .val (.int k), .val (.ref op), .val (.int (own_f2 op p1 s_BinaryOperator_AND s_BinaryOperator_OR)), .val (.int v8), .val (.int (own_fapp12 p1 p2)), .val (.int (own_fapp12 p1 p3)), .val (.int (0 : Int32)), .val (.int (1 : Int32))] [(.int (1 : Int32))]))
              exact own_retN X30 hx hlk hP (t := .boolean) (by simp) hrt (hb hby at_174) (by decide) (by decide) ⟨rfl, N30⟩
          · refine own_st (fun _ => XS.ifNo X30.here hx rfl (hb hby at_134) rfl ((if0 _ _).trans (feq hc32).1)) ?_
            show own_End p e below P (T30.setTop (mkF m 137 #[.val (.int p0), .val (.int p1), .val (.int p2), .val (.int p3), .val (.int k), .val (.ref op), .val (.int (own_f2 op p1 s_BinaryOperator_AND s_BinaryOperator_OR)), .val (.int v8), .val (.int (own_fapp12 p1 p2)), .val (.int (own_fapp12 p1 p3)), .unset, .unset] []))
            refine own_st (fun _ => XS.iconst X30.here hx rfl (hb hby at_137)) ?_
            show own_End p e below P (T30.setTop (mkF m 138 #[.val (.int p0), .val (.int p1), .val (.int p2), .val (.int p3), .val (.int k), .val (.ref op), .val (.int (own_f2 op p1 s_BinaryOperator_AND s_BinaryOperator_OR)), .val (.int v8), .val (.int (own_fapp12 p1 p2)), .val (.int (own_fapp12 p1 p3)), .unset, .unset] [(.int (1 : Int32))]))
            refine own_st (fun _ => XS.goto X30.here hx rfl (pc0 := 138) (pc' := 142) rfl (hb hby at_138) (by decide) (by decide)) ?_
            show own_End p e below P (T30.setTop (mkF m 142 #[.val (.int p0), .val (.int p1), .val (.int p2), .val (.int p3), .val (.int k), .val (.ref op), .val (.int (own_f2 op p1 s_BinaryOperator_AND s_BinaryOperator_OR)), .val (.int v8), .val (.int (own_fapp12 p1 p2)), .val (.int (own_fapp12 p1 p3)), .unset, .unset] [(.int (1 : Int32))]))
            refine own_st (fun _ => XS.istore X30.here hx rfl (hb hby at_142) rfl (l' := #[.val (.int p0), .val (.int p1), .val (.int p2), .val (.int p3), .val (.int k), .val (.ref op), .val (.int (own_f2 op p1 s_BinaryOperator_AND s_BinaryOperator_OR)), .val (.int v8), .val (.int (own_fapp12 p1 p2)), .val (.int (own_fapp12 p1 p3)), .val (.int (1 : Int32)), .unset]) rfl) ?_
            show own_End p e below P (T30.setTop (mkF m 144 #[.val (.int p0), .val (.int p1), .val (.int p2), .val (.int p3), .val (.int k), .val (.ref op), .val (.int (own_f2 op p1 s_BinaryOperator_AND s_BinaryOperator_OR)), .val (.int v8), .val (.int (own_fapp12 p1 p2)), .val (.int (own_fapp12 p1 p3)), .val (.int (1 : Int32)), .unset] []))
            refine own_st (fun _ => XS.iloadN X30.here hx rfl (hb hby at_144) rfl) ?_
            show own_End p e below P (T30.setTop (mkF m 145 #[.val (.int p0), .val (.int p1), .val (.int p2), .val (.int p3), .val (.int k), .val (.ref op), .val (.int (own_f2 op p1 s_BinaryOperator_AND s_BinaryOperator_OR)), .val (.int v8), .val (.int (own_fapp12 p1 p2)), .val (.int (own_fapp12 p1 p3)), .val (.int (1 : Int32)), .unset] [(.int p3)]))
            by_cases hc38 : p3 = (0 : Int32)
            · refine own_st (fun _ => XS.ifYes X30.here hx rfl (pc0 := 145) (pc' := 152) rfl (hb hby at_145) rfl ((if0 _ _).trans (teq hc38).1) (by decide) (by decide)) ?_
              show own_End p e below P (T30.setTop (mkF m 152 #[.val (.int p0), .val (.int p1), .val (.int p2), .val (.int p3), .val (.int k), .val (.ref op), .val (.int (own_f2 op p1 s_BinaryOperator_AND s_BinaryOperator_OR)), .val (.int v8), .val (.int (own_fapp12 p1 p2)), .val (.int (own_fapp12 p1 p3)), .val (.int (1 : Int32)), .unset] []))
              refine own_st (fun _ => XS.iconst X30.here hx rfl (hb hby at_152)) ?_
              show own_End p e below P (T30.setTop (mkF m 153 #[.val (.int p0), .val (.int p1), .val (.int p2), .val (.int p3), .val (.int k), .val (.ref op), .val (.int (own_f2 op p1 s_BinaryOperator_AND s_BinaryOperator_OR)), .val (.int v8), .val (.int (own_fapp12 p1 p2)), .val (.int (own_fapp12 p1 p3)), .val (.int (1 : Int32)), .unset] [(.int (0 : Int32))]))
              refine own_st (fun _ => XS.istore X30.here hx rfl (hb hby at_153) rfl (l' := #[.val (.int p0), .val (.int p1), .val (.int p2), .val (.int p3), .val (.int k), .val (.ref op), .val (.int (own_f2 op p1 s_BinaryOperator_AND s_BinaryOperator_OR)), .val (.int v8), .val (.int (own_fapp12 p1 p2)), .val (.int (own_fapp12 p1 p3)), .val (.int (1 : Int32)), .val (.int (0 : Int32))]) rfl) ?_
              show own_End p e below P (T30.setTop (mkF m 155 #[.val (.int p0), .val (.int p1), .val (.int p2), .val (.int p3), .val (.int k), .val (.ref op), .val (.int (own_f2 op p1 s_BinaryOperator_AND s_BinaryOperator_OR)), .val (.int v8), .val (.int (own_fapp12 p1 p2)), .val (.int (own_fapp12 p1 p3)), .val (.int (1 : Int32)), .val (.int (0 : Int32))] []))
              refine own_st (fun _ => XS.iload X30.here hx rfl (hb hby at_155) rfl) ?_
              show own_End p e below P (T30.setTop (mkF m 157 #[.val (.int p0), .val (.int p1), .val (.int p2), .val (.int p3), .val (.int k), .val (.ref op), .val (.int (own_f2 op p1 s_BinaryOperator_AND s_BinaryOperator_OR)), .val (.int v8), .val (.int (own_fapp12 p1 p2)), .val (.int (own_fapp12 p1 p3)), .val (.int (1 : Int32)), .val (.int (0 : Int32))] [(.int (own_fapp12 p1 p2))]))
              refine own_st (fun _ => XS.iload X30.here hx rfl (hb hby at_157) rfl) ?_
              show own_End p e below P (T30.setTop (mkF m 159 #[.val (.int p0), .val (.int p1), .val (.int p2), .val (.int p3), .val (.int k), .val (.ref op), .val (.int (own_f2 op p1 s_BinaryOperator_AND s_BinaryOperator_OR)), .val (.int v8), .val (.int (own_fapp12 p1 p2)), .val (.int (own_fapp12 p1 p3)), .val (.int (1 : Int32)), .val (.int (0 : Int32))] [(.int (1 : Int32)), (.int (own_fapp12 p1 p2))]))
              have hc39 : (own_fapp12 p1 p2) = (1 : Int32) := by rw [own_b12 hd hc31, if_neg hc32]
              refine own_st (fun _ => XS.icmpNo X30.here hx rfl (hb hby at_159) rfl (teq hc39).2) ?_
              show own_End p e below P (T30.setTop (mkF m 162 #[.val (.int p0), .val (.int p1), .val (.int p2), .val (.int p3), .val (.int k), .val (.ref op), .val (.int (own_f2 op p1 s_BinaryOperator_AND s_BinaryOperator_OR)), .val (.int v8), .val (.int (own_fapp12 p1 p2)), .val (.int (own_fapp12 p1 p3)), .val (.int (1 : Int32)), .val (.int (0 : Int32))] []))
              refine own_st (fun _ => XS.iload X30.here hx rfl (hb hby at_162) rfl) ?_
              show own_End p e below P (T30.setTop (mkF m 164 #[.val (.int p0), .val (.int p1), .val (.int p2), .val (.int p3), .val (.int k), .val (.ref op), .val (.int (own_f2 op p1 s_BinaryOperator_AND s_BinaryOperator_OR)), .val (.int v8), .val (.int (own_fapp12 p1 p2)), .val (.int (own_fapp12 p1 p3)), .val (.int (1 : Int32)), .val (.int (0 : Int32))] [(.int (own_fapp12 p1 p3))]))
              refine own_st (fun _ => XS.iload X30.here hx rfl (hb hby at_164) rfl) ?_
              show own_End p e below P (T30.setTop (mkF m 166 #[.val (.int p0), .val (.int p1), .val (.int p2), .val (.int p3), .val (.int k), .val (.ref op), .val (.int (own_f2 op p1 s_BinaryOperator_AND s_BinaryOperator_OR)), .val (.int v8), .val (.int (own_fapp12 p1 p2)), .val (.int (own_fapp12 p1 p3)), .val (.int (1 : Int32)), .val (.int (0 : Int32))] [(.int (0 : Int32)), (.int (own_fapp12 p1 p3))]))
              have hc40 : (own_fapp12 p1 p3) = (0 : Int32) := by rw [own_b12 hd hc31, if_pos hc38]
              refine own_st (fun _ => XS.icmpNo X30.here hx rfl (hb hby at_166) rfl (teq hc40).2) ?_
              show own_End p e below P (T30.setTop (mkF m 169 #[.val (.int p0), .val (.int p1), .val (.int p2), .val (.int p3), .val (.int k), .val (.ref op), .val (.int (own_f2 op p1 s_BinaryOperator_AND s_BinaryOperator_OR)), .val (.int v8), .val (.int (own_fapp12 p1 p2)), .val (.int (own_fapp12 p1 p3)), .val (.int (1 : Int32)), .val (.int (0 : Int32))] []))
              refine own_st (fun _ => XS.iconst X30.here hx rfl (hb hby at_169)) ?_
              show own_End p e below P (T30.setTop (mkF m 170 #[.val (.int p0), .val (.int p1), .val (.int p2), .val (.int p3), .val (.int k), .val (.ref op), .val (.int (own_f2 op p1 s_BinaryOperator_AND s_BinaryOperator_OR)), .val (.int v8), .val (.int (own_fapp12 p1 p2)), .val (.int (own_fapp12 p1 p3)), .val (.int (1 : Int32)), .val (.int (0 : Int32))] [(.int (1 : Int32))]))
              refine own_st (fun _ => XS.goto X30.here hx rfl (pc0 := 170) (pc' := 174) rfl (hb hby at_170) (by decide) (by decide)) ?_
              show own_End p e below P (T30.setTop (mkF m 174 #[.val (.int p0), .val (.int p1), .val (.int p2), .val (.int p3), .val (.int k), .val (.ref op), .val (.int (own_f2 op p1 s_BinaryOperator_AND s_BinaryOperator_OR)), .val (.int v8), .val (.int (own_fapp12 p1 p2)), .val (.int (own_fapp12 p1 p3)), .val (.int (1 : Int32)), .val (.int (0 : Int32))] [(.int (1 : Int32))]))
              exact own_retN X30 hx hlk hP (t := .boolean) (by simp) hrt (hb hby at_174) (by decide) (by decide) ⟨rfl, N30⟩
            · refine own_st (fun _ => XS.ifNo X30.here hx rfl (hb hby at_145) rfl ((if0 _ _).trans (feq hc38).1)) ?_
              show own_End p e below P (T30.setTop (mkF m 148 #[.val (.int p0), .val (.int p1), .val (.int p2), .val (.int p3), .val (.int k), .val (.ref op), .val (.int (own_f2 op p1 s_BinaryOperator_AND s_BinaryOperator_OR)), .val (.int v8), .val (.int (own_fapp12 p1 p2)), .val (.int (own_fapp12 p1 p3)), .val (.int (1 : Int32)), .unset] []))
              refine own_st (fun _ => XS.iconst X30.here hx rfl (hb hby at_148)) ?_
              show own_End p e below P (T30.setTop (mkF m 149 #[.val (.int p0), .val (.int p1), .val (.int p2), .val (.int p3), .val (.int k), .val (.ref op), .val (.int (own_f2 op p1 s_BinaryOperator_AND s_BinaryOperator_OR)), .val (.int v8), .val (.int (own_fapp12 p1 p2)), .val (.int (own_fapp12 p1 p3)), .val (.int (1 : Int32)), .unset] [(.int (1 : Int32))]))
              refine own_st (fun _ => XS.goto X30.here hx rfl (pc0 := 149) (pc' := 153) rfl (hb hby at_149) (by decide) (by decide)) ?_
              show own_End p e below P (T30.setTop (mkF m 153 #[.val (.int p0), .val (.int p1), .val (.int p2), .val (.int p3), .val (.int k), .val (.ref op), .val (.int (own_f2 op p1 s_BinaryOperator_AND s_BinaryOperator_OR)), .val (.int v8), .val (.int (own_fapp12 p1 p2)), .val (.int (own_fapp12 p1 p3)), .val (.int (1 : Int32)), .unset] [(.int (1 : Int32))]))
              refine own_st (fun _ => XS.istore X30.here hx rfl (hb hby at_153) rfl (l' := #[.val (.int p0), .val (.int p1), .val (.int p2), .val (.int p3), .val (.int k), .val (.ref op), .val (.int (own_f2 op p1 s_BinaryOperator_AND s_BinaryOperator_OR)), .val (.int v8), .val (.int (own_fapp12 p1 p2)), .val (.int (own_fapp12 p1 p3)), .val (.int (1 : Int32)), .val (.int (1 : Int32))]) rfl) ?_
              show own_End p e below P (T30.setTop (mkF m 155 #[.val (.int p0), .val (.int p1), .val (.int p2), .val (.int p3), .val (.int k), .val (.ref op), .val (.int (own_f2 op p1 s_BinaryOperator_AND s_BinaryOperator_OR)), .val (.int v8), .val (.int (own_fapp12 p1 p2)), .val (.int (own_fapp12 p1 p3)), .val (.int (1 : Int32)), .val (.int (1 : Int32))] []))
              refine own_st (fun _ => XS.iload X30.here hx rfl (hb hby at_155) rfl) ?_
              show own_End p e below P (T30.setTop (mkF m 157 #[.val (.int p0), .val (.int p1), .val (.int p2), .val (.int p3), .val (.int k), .val (.ref op), .val (.int (own_f2 op p1 s_BinaryOperator_AND s_BinaryOperator_OR)), .val (.int v8), .val (.int (own_fapp12 p1 p2)), .val (.int (own_fapp12 p1 p3)), .val (.int (1 : Int32)), .val (.int (1 : Int32))] [(.int (own_fapp12 p1 p2))]))
              refine own_st (fun _ => XS.iload X30.here hx rfl (hb hby at_157) rfl) ?_
              show own_End p e below P (T30.setTop (mkF m 159 #[.val (.int p0), .val (.int p1), .val (.int p2), .val (.int p3), .val (.int k), .val (.ref op), .val (.int (own_f2 op p1 s_BinaryOperator_AND s_BinaryOperator_OR)), .val (.int v8), .val (.int (own_fapp12 p1 p2)), .val (.int (own_fapp12 p1 p3)), .val (.int (1 : Int32)), .val (.int (1 : Int32))] [(.int (1 : Int32)), (.int (own_fapp12 p1 p2))]))
              have hc41 : (own_fapp12 p1 p2) = (1 : Int32) := by rw [own_b12 hd hc31, if_neg hc32]
              refine own_st (fun _ => XS.icmpNo X30.here hx rfl (hb hby at_159) rfl (teq hc41).2) ?_
              show own_End p e below P (T30.setTop (mkF m 162 #[.val (.int p0), .val (.int p1), .val (.int p2), .val (.int p3), .val (.int k), .val (.ref op), .val (.int (own_f2 op p1 s_BinaryOperator_AND s_BinaryOperator_OR)), .val (.int v8), .val (.int (own_fapp12 p1 p2)), .val (.int (own_fapp12 p1 p3)), .val (.int (1 : Int32)), .val (.int (1 : Int32))] []))
              refine own_st (fun _ => XS.iload X30.here hx rfl (hb hby at_162) rfl) ?_
              show own_End p e below P (T30.setTop (mkF m 164 #[.val (.int p0), .val (.int p1), .val (.int p2), .val (.int p3), .val (.int k), .val (.ref op), .val (.int (own_f2 op p1 s_BinaryOperator_AND s_BinaryOperator_OR)), .val (.int v8), .val (.int (own_fapp12 p1 p2)), .val (.int (own_fapp12 p1 p3)), .val (.int (1 : Int32)), .val (.int (1 : Int32))] [(.int (own_fapp12 p1 p3))]))
              refine own_st (fun _ => XS.iload X30.here hx rfl (hb hby at_164) rfl) ?_
              show own_End p e below P (T30.setTop (mkF m 166 #[.val (.int p0), .val (.int p1), .val (.int p2), .val (.int p3), .val (.int k), .val (.ref op), .val (.int (own_f2 op p1 s_BinaryOperator_AND s_BinaryOperator_OR)), .val (.int v8), .val (.int (own_fapp12 p1 p2)), .val (.int (own_fapp12 p1 p3)), .val (.int (1 : Int32)), .val (.int (1 : Int32))] [(.int (1 : Int32)), (.int (own_fapp12 p1 p3))]))
              have hc42 : (own_fapp12 p1 p3) = (1 : Int32) := by rw [own_b12 hd hc31, if_neg hc38]
              refine own_st (fun _ => XS.icmpNo X30.here hx rfl (hb hby at_166) rfl (teq hc42).2) ?_
              show own_End p e below P (T30.setTop (mkF m 169 #[.val (.int p0), .val (.int p1), .val (.int p2), .val (.int p3), .val (.int k), .val (.ref op), .val (.int (own_f2 op p1 s_BinaryOperator_AND s_BinaryOperator_OR)), .val (.int v8), .val (.int (own_fapp12 p1 p2)), .val (.int (own_fapp12 p1 p3)), .val (.int (1 : Int32)), .val (.int (1 : Int32))] []))
              refine own_st (fun _ => XS.iconst X30.here hx rfl (hb hby at_169)) ?_
              show own_End p e below P (T30.setTop (mkF m 170 #[.val (.int p0), .val (.int p1), .val (.int p2), .val (.int p3), .val (.int k), .val (.ref op), .val (.int (own_f2 op p1 s_BinaryOperator_AND s_BinaryOperator_OR)), .val (.int v8), .val (.int (own_fapp12 p1 p2)), .val (.int (own_fapp12 p1 p3)), .val (.int (1 : Int32)), .val (.int (1 : Int32))] [(.int (1 : Int32))]))
              refine own_st (fun _ => XS.goto X30.here hx rfl (pc0 := 170) (pc' := 174) rfl (hb hby at_170) (by decide) (by decide)) ?_
              show own_End p e below P (T30.setTop (mkF m 174 #[.val (.int p0), .val (.int p1), .val (.int p2), .val (.int p3), .val (.int k), .val (.ref op), .val (.int (own_f2 op p1 s_BinaryOperator_AND s_BinaryOperator_OR)), .val (.int v8), .val (.int (own_fapp12 p1 p2)), .val (.int (own_fapp12 p1 p3)), .val (.int (1 : Int32)), .val (.int (1 : Int32))] [(.int (1 : Int32))]))
              exact own_retN X30 hx hlk hP (t := .boolean) (by simp) hrt (hb hby at_174) (by decide) (by decide) ⟨rfl, N30⟩
        · refine own_st (fun _ => XS.ifNo X30.here hx rfl (hb hby at_96) rfl ((if0 _ _).trans (feq hc31).1)) ?_
          show own_End p e below P (T30.setTop (mkF m 99 #[.val (.int p0), .val (.int p1), .val (.int p2), .val (.int p3), .val (.int k), .val (.ref op), .val (.int (own_f2 op p1 s_BinaryOperator_AND s_BinaryOperator_OR)), .val (.int v8), .val (.int (own_fapp12 p1 p2)), .val (.int (own_fapp12 p1 p3)), .unset, .unset] []))
          refine own_st (fun _ => XS.iload X30.here hx rfl (hb hby at_99) rfl) ?_
          show own_End p e below P (T30.setTop (mkF m 101 #[.val (.int p0), .val (.int p1), .val (.int p2), .val (.int p3), .val (.int k), .val (.ref op), .val (.int (own_f2 op p1 s_BinaryOperator_AND s_BinaryOperator_OR)), .val (.int v8), .val (.int (own_fapp12 p1 p2)), .val (.int (own_fapp12 p1 p3)), .unset, .unset] [(.int k)]))
          refine own_st (fun _ => XS.bipush X30.here hx rfl (hb hby at_101)) ?_
          show own_End p e below P (T30.setTop (mkF m 103 #[.val (.int p0), .val (.int p1), .val (.int p2), .val (.int p3), .val (.int k), .val (.ref op), .val (.int (own_f2 op p1 s_BinaryOperator_AND s_BinaryOperator_OR)), .val (.int v8), .val (.int (own_fapp12 p1 p2)), .val (.int (own_fapp12 p1 p3)), .unset, .unset] [(.int (11 : Int32)), (.int k)]))
          refine own_st (fun _ => XS.icmpYes X30.here hx rfl (pc0 := 103) (pc' := 110) rfl (hb hby at_103) rfl (feq hc11).2 (by decide) (by decide)) ?_
          show own_End p e below P (T30.setTop (mkF m 110 #[.val (.int p0), .val (.int p1), .val (.int p2), .val (.int p3), .val (.int k), .val (.ref op), .val (.int (own_f2 op p1 s_BinaryOperator_AND s_BinaryOperator_OR)), .val (.int v8), .val (.int (own_fapp12 p1 p2)), .val (.int (own_fapp12 p1 p3)), .unset, .unset] []))
          refine own_st (fun _ => XS.iconst X30.here hx rfl (hb hby at_110)) ?_
          show own_End p e below P (T30.setTop (mkF m 111 #[.val (.int p0), .val (.int p1), .val (.int p2), .val (.int p3), .val (.int k), .val (.ref op), .val (.int (own_f2 op p1 s_BinaryOperator_AND s_BinaryOperator_OR)), .val (.int v8), .val (.int (own_fapp12 p1 p2)), .val (.int (own_fapp12 p1 p3)), .unset, .unset] [(.int (1 : Int32))]))
          refine own_st (fun _ => XS.istore X30.here hx rfl (hb hby at_111) rfl (l' := #[.val (.int p0), .val (.int p1), .val (.int p2), .val (.int p3), .val (.int k), .val (.ref op), .val (.int (own_f2 op p1 s_BinaryOperator_AND s_BinaryOperator_OR)), .val (.int v8), .val (.int (own_fapp12 p1 p2)), .val (.int (own_fapp12 p1 p3)), .val (.int (1 : Int32)), .unset]) rfl) ?_
          show own_End p e below P (T30.setTop (mkF m 113 #[.val (.int p0), .val (.int p1), .val (.int p2), .val (.int p3), .val (.int k), .val (.ref op), .val (.int (own_f2 op p1 s_BinaryOperator_AND s_BinaryOperator_OR)), .val (.int v8), .val (.int (own_fapp12 p1 p2)), .val (.int (own_fapp12 p1 p3)), .val (.int (1 : Int32)), .unset] []))
          refine own_st (fun _ => XS.iload X30.here hx rfl (hb hby at_113) rfl) ?_
          show own_End p e below P (T30.setTop (mkF m 115 #[.val (.int p0), .val (.int p1), .val (.int p2), .val (.int p3), .val (.int k), .val (.ref op), .val (.int (own_f2 op p1 s_BinaryOperator_AND s_BinaryOperator_OR)), .val (.int v8), .val (.int (own_fapp12 p1 p2)), .val (.int (own_fapp12 p1 p3)), .val (.int (1 : Int32)), .unset] [(.int (own_fapp12 p1 p2))]))
          refine own_st (fun _ => XS.iload X30.here hx rfl (hb hby at_115) rfl) ?_
          show own_End p e below P (T30.setTop (mkF m 117 #[.val (.int p0), .val (.int p1), .val (.int p2), .val (.int p3), .val (.int k), .val (.ref op), .val (.int (own_f2 op p1 s_BinaryOperator_AND s_BinaryOperator_OR)), .val (.int v8), .val (.int (own_fapp12 p1 p2)), .val (.int (own_fapp12 p1 p3)), .val (.int (1 : Int32)), .unset] [(.int (1 : Int32)), (.int (own_fapp12 p1 p2))]))
          have hc43 : (own_fapp12 p1 p2) = (1 : Int32) := by exact own_a12 hd hc31
          refine own_st (fun _ => XS.icmpNo X30.here hx rfl (hb hby at_117) rfl (teq hc43).2) ?_
          show own_End p e below P (T30.setTop (mkF m 120 #[.val (.int p0), .val (.int p1), .val (.int p2), .val (.int p3), .val (.int k), .val (.ref op), .val (.int (own_f2 op p1 s_BinaryOperator_AND s_BinaryOperator_OR)), .val (.int v8), .val (.int (own_fapp12 p1 p2)), .val (.int (own_fapp12 p1 p3)), .val (.int (1 : Int32)), .unset] []))
          refine own_st (fun _ => XS.iload X30.here hx rfl (hb hby at_120) rfl) ?_
          show own_End p e below P (T30.setTop (mkF m 122 #[.val (.int p0), .val (.int p1), .val (.int p2), .val (.int p3), .val (.int k), .val (.ref op), .val (.int (own_f2 op p1 s_BinaryOperator_AND s_BinaryOperator_OR)), .val (.int v8), .val (.int (own_fapp12 p1 p2)), .val (.int (own_fapp12 p1 p3)), .val (.int (1 : Int32)), .unset] [(.int (own_fapp12 p1 p3))]))
          refine own_st (fun _ => XS.iload X30.here hx rfl (hb hby at_122) rfl) ?_
          show own_End p e below P (T30.setTop (mkF m 124 #[.val (.int p0), .val (.int p1), .val (.int p2), .val (.int p3), .val (.int k), .val (.ref op), .val (.int (own_f2 op p1 s_BinaryOperator_AND s_BinaryOperator_OR)), .val (.int v8), .val (.int (own_fapp12 p1 p2)), .val (.int (own_fapp12 p1 p3)), .val (.int (1 : Int32)), .unset] [(.int (1 : Int32)), (.int (own_fapp12 p1 p3))]))
          have hc44 : (own_fapp12 p1 p3) = (1 : Int32) := by exact own_a12 hd hc31
          refine own_st (fun _ => XS.icmpNo X30.here hx rfl (hb hby at_124) rfl (teq hc44).2) ?_
          show own_End p e below P (T30.setTop (mkF m 127 #[.val (.int p0), .val (.int p1), .val (.int p2), .val (.int p3), .val (.int k), .val (.ref op), .val (.int (own_f2 op p1 s_BinaryOperator_AND s_BinaryOperator_OR)), .val (.int v8), .val (.int (own_fapp12 p1 p2)), .val (.int (own_fapp12 p1 p3)), .val (.int (1 : Int32)), .unset] []))
          refine own_st (fun _ => XS.iconst X30.here hx rfl (hb hby at_127)) ?_
          show own_End p e below P (T30.setTop (mkF m 128 #[.val (.int p0), .val (.int p1), .val (.int p2), .val (.int p3), .val (.int k), .val (.ref op), .val (.int (own_f2 op p1 s_BinaryOperator_AND s_BinaryOperator_OR)), .val (.int v8), .val (.int (own_fapp12 p1 p2)), .val (.int (own_fapp12 p1 p3)), .val (.int (1 : Int32)), .unset] [(.int (1 : Int32))]))
          refine own_st (fun _ => XS.goto X30.here hx rfl (pc0 := 128) (pc' := 132) rfl (hb hby at_128) (by decide) (by decide)) ?_
          show own_End p e below P (T30.setTop (mkF m 132 #[.val (.int p0), .val (.int p1), .val (.int p2), .val (.int p3), .val (.int k), .val (.ref op), .val (.int (own_f2 op p1 s_BinaryOperator_AND s_BinaryOperator_OR)), .val (.int v8), .val (.int (own_fapp12 p1 p2)), .val (.int (own_fapp12 p1 p3)), .val (.int (1 : Int32)), .unset] [(.int (1 : Int32))]))
          exact own_retN X30 hx hlk hP (t := .boolean) (by simp) hrt (hb hby at_132) (by decide) (by decide) ⟨rfl, N30⟩
      · refine own_st (fun _ => XS.icmpYes X2.here hx rfl (pc0 := 73) (pc' := 175) rfl (hb hby at_73) rfl (feq hc28).2 (by decide) (by decide)) ?_
        show own_End p e below P (T2.setTop (mkF m 175 #[.val (.int p0), .val (.int p1), .val (.int p2), .val (.int p3), .val (.int k), .val (.ref op), .val (.int (own_f2 op p1 s_BinaryOperator_AND s_BinaryOperator_OR)), .val (.int v8), .unset, .unset, .unset, .unset] []))
        refine own_st (fun _ => XS.iconst X2.here hx rfl (hb hby at_175)) ?_
        show own_End p e below P (T2.setTop (mkF m 176 #[.val (.int p0), .val (.int p1), .val (.int p2), .val (.int p3), .val (.int k), .val (.ref op), .val (.int (own_f2 op p1 s_BinaryOperator_AND s_BinaryOperator_OR)), .val (.int v8), .unset, .unset, .unset, .unset] [(.int (1 : Int32))]))
        exact own_retN X2 hx hlk hP (t := .boolean) (by simp) hrt (hb hby at_176) (by decide) (by decide) ⟨rfl, N2⟩
  by_cases hc3 : k = (11 : Int32)
  · refine own_st (fun _ => XS.icmpNo X2.here hx rfl (hb hby at_28) rfl (teq hc3).2) ?_
    show own_End p e below P (T2.setTop (mkF m 31 #[.val (.int p0), .val (.int p1), .val (.int p2), .val (.int p3), .val (.int k), .val (.ref op), .val (.int (own_f2 op p1 s_BinaryOperator_AND s_BinaryOperator_OR)), .unset, .unset, .unset, .unset, .unset] []))
    refine own_st (fun _ => XS.iloadN X2.here hx rfl (hb hby at_31) rfl) ?_
    show own_End p e below P (T2.setTop (mkF m 32 #[.val (.int p0), .val (.int p1), .val (.int p2), .val (.int p3), .val (.int k), .val (.ref op), .val (.int (own_f2 op p1 s_BinaryOperator_AND s_BinaryOperator_OR)), .unset, .unset, .unset, .unset, .unset] [(.int p1)]))
    by_cases hc45 : p1 = (0 : Int32)
    · refine own_st (fun _ => XS.ifYes X2.here hx rfl (pc0 := 32) (pc' := 46) rfl (hb hby at_32) rfl ((if0 _ _).trans (teq hc45).1) (by decide) (by decide)) ?_
      show own_End p e below P (T2.setTop (mkF m 46 #[.val (.int p0), .val (.int p1), .val (.int p2), .val (.int p3), .val (.int k), .val (.ref op), .val (.int (own_f2 op p1 s_BinaryOperator_AND s_BinaryOperator_OR)), .unset, .unset, .unset, .unset, .unset] []))
      refine own_st (fun _ => XS.iconst X2.here hx rfl (hb hby at_46)) ?_
      show own_End p e below P (T2.setTop (mkF m 47 #[.val (.int p0), .val (.int p1), .val (.int p2), .val (.int p3), .val (.int k), .val (.ref op), .val (.int (own_f2 op p1 s_BinaryOperator_AND s_BinaryOperator_OR)), .unset, .unset, .unset, .unset, .unset] [(.int (1 : Int32))]))
      refine own_st (fun _ => XS.goto X2.here hx rfl (pc0 := 47) (pc' := 51) rfl (hb hby at_47) (by decide) (by decide)) ?_
      show own_End p e below P (T2.setTop (mkF m 51 #[.val (.int p0), .val (.int p1), .val (.int p2), .val (.int p3), .val (.int k), .val (.ref op), .val (.int (own_f2 op p1 s_BinaryOperator_AND s_BinaryOperator_OR)), .unset, .unset, .unset, .unset, .unset] [(.int (1 : Int32))]))
      exact J9 _ ((if_pos hc3).trans ((if_pos hc45).trans (rfl))).symm
    · refine own_st (fun _ => XS.ifNo X2.here hx rfl (hb hby at_32) rfl ((if0 _ _).trans (feq hc45).1)) ?_
      show own_End p e below P (T2.setTop (mkF m 35 #[.val (.int p0), .val (.int p1), .val (.int p2), .val (.int p3), .val (.int k), .val (.ref op), .val (.int (own_f2 op p1 s_BinaryOperator_AND s_BinaryOperator_OR)), .unset, .unset, .unset, .unset, .unset] []))
      refine own_st (fun _ => XS.iload X2.here hx rfl (hb hby at_35) rfl) ?_
      show own_End p e below P (T2.setTop (mkF m 37 #[.val (.int p0), .val (.int p1), .val (.int p2), .val (.int p3), .val (.int k), .val (.ref op), .val (.int (own_f2 op p1 s_BinaryOperator_AND s_BinaryOperator_OR)), .unset, .unset, .unset, .unset, .unset] [(.int k)]))
      refine own_st (fun _ => XS.bipush X2.here hx rfl (hb hby at_37)) ?_
      show own_End p e below P (T2.setTop (mkF m 39 #[.val (.int p0), .val (.int p1), .val (.int p2), .val (.int p3), .val (.int k), .val (.ref op), .val (.int (own_f2 op p1 s_BinaryOperator_AND s_BinaryOperator_OR)), .unset, .unset, .unset, .unset, .unset] [(.int (12 : Int32)), (.int k)]))
      by_cases hc46 : k = (12 : Int32)
      · refine own_st (fun _ => XS.icmpNo X2.here hx rfl (hb hby at_39) rfl (teq hc46).2) ?_
        show own_End p e below P (T2.setTop (mkF m 42 #[.val (.int p0), .val (.int p1), .val (.int p2), .val (.int p3), .val (.int k), .val (.ref op), .val (.int (own_f2 op p1 s_BinaryOperator_AND s_BinaryOperator_OR)), .unset, .unset, .unset, .unset, .unset] []))
        refine own_st (fun _ => XS.iloadN X2.here hx rfl (hb hby at_42) rfl) ?_
        show own_End p e below P (T2.setTop (mkF m 43 #[.val (.int p0), .val (.int p1), .val (.int p2), .val (.int p3), .val (.int k), .val (.ref op), .val (.int (own_f2 op p1 s_BinaryOperator_AND s_BinaryOperator_OR)), .unset, .unset, .unset, .unset, .unset] [(.int p1)]))
        refine own_st (fun _ => XS.ifNo X2.here hx rfl (hb hby at_43) rfl ((if0 _ _).trans (feq hc45).1)) ?_
        show own_End p e below P (T2.setTop (mkF m 46 #[.val (.int p0), .val (.int p1), .val (.int p2), .val (.int p3), .val (.int k), .val (.ref op), .val (.int (own_f2 op p1 s_BinaryOperator_AND s_BinaryOperator_OR)), .unset, .unset, .unset, .unset, .unset] []))
        refine own_st (fun _ => XS.iconst X2.here hx rfl (hb hby at_46)) ?_
        show own_End p e below P (T2.setTop (mkF m 47 #[.val (.int p0), .val (.int p1), .val (.int p2), .val (.int p3), .val (.int k), .val (.ref op), .val (.int (own_f2 op p1 s_BinaryOperator_AND s_BinaryOperator_OR)), .unset, .unset, .unset, .unset, .unset] [(.int (1 : Int32))]))
        refine own_st (fun _ => XS.goto X2.here hx rfl (pc0 := 47) (pc' := 51) rfl (hb hby at_47) (by decide) (by decide)) ?_
        show own_End p e below P (T2.setTop (mkF m 51 #[.val (.int p0), .val (.int p1), .val (.int p2), .val (.int p3), .val (.int k), .val (.ref op), .val (.int (own_f2 op p1 s_BinaryOperator_AND s_BinaryOperator_OR)), .unset, .unset, .unset, .unset, .unset] [(.int (1 : Int32))]))
        exact J9 _ ((if_pos hc3).trans ((if_neg hc45).trans ((if_pos hc46).trans (rfl)))).symm
      · refine own_st (fun _ => XS.icmpYes X2.here hx rfl (pc0 := 39) (pc' := 50) rfl (hb hby at_39) rfl (feq hc46).2 (by decide) (by decide)) ?_
        show own_End p e below P (T2.setTop (mkF m 50 #[.val (.int p0), .val (.int p1), .val (.int p2), .val (.int p3), .val (.int k), .val (.ref op), .val (.int (own_f2 op p1 s_BinaryOperator_AND s_BinaryOperator_OR)), .unset, .unset, .unset, .unset, .unset] []))
        refine own_st (fun _ => XS.iconst X2.here hx rfl (hb hby at_50)) ?_
        show own_End p e below P (T2.setTop (mkF m 51 #[.val (.int p0), .val (.int p1), .val (.int p2), .val (.int p3), .val (.int k), .val (.ref op), .val (.int (own_f2 op p1 s_BinaryOperator_AND s_BinaryOperator_OR)), .unset, .unset, .unset, .unset, .unset] [(.int (0 : Int32))]))
        exact J9 _ ((if_pos hc3).trans ((if_neg hc45).trans ((if_neg hc46).trans (rfl)))).symm
  · refine own_st (fun _ => XS.icmpYes X2.here hx rfl (pc0 := 28) (pc' := 35) rfl (hb hby at_28) rfl (feq hc3).2 (by decide) (by decide)) ?_
    show own_End p e below P (T2.setTop (mkF m 35 #[.val (.int p0), .val (.int p1), .val (.int p2), .val (.int p3), .val (.int k), .val (.ref op), .val (.int (own_f2 op p1 s_BinaryOperator_AND s_BinaryOperator_OR)), .unset, .unset, .unset, .unset, .unset] []))
    refine own_st (fun _ => XS.iload X2.here hx rfl (hb hby at_35) rfl) ?_
    show own_End p e below P (T2.setTop (mkF m 37 #[.val (.int p0), .val (.int p1), .val (.int p2), .val (.int p3), .val (.int k), .val (.ref op), .val (.int (own_f2 op p1 s_BinaryOperator_AND s_BinaryOperator_OR)), .unset, .unset, .unset, .unset, .unset] [(.int k)]))
    refine own_st (fun _ => XS.bipush X2.here hx rfl (hb hby at_37)) ?_
    show own_End p e below P (T2.setTop (mkF m 39 #[.val (.int p0), .val (.int p1), .val (.int p2), .val (.int p3), .val (.int k), .val (.ref op), .val (.int (own_f2 op p1 s_BinaryOperator_AND s_BinaryOperator_OR)), .unset, .unset, .unset, .unset, .unset] [(.int (12 : Int32)), (.int k)]))
    by_cases hc47 : k = (12 : Int32)
    · refine own_st (fun _ => XS.icmpNo X2.here hx rfl (hb hby at_39) rfl (teq hc47).2) ?_
      show own_End p e below P (T2.setTop (mkF m 42 #[.val (.int p0), .val (.int p1), .val (.int p2), .val (.int p3), .val (.int k), .val (.ref op), .val (.int (own_f2 op p1 s_BinaryOperator_AND s_BinaryOperator_OR)), .unset, .unset, .unset, .unset, .unset] []))
      refine own_st (fun _ => XS.iloadN X2.here hx rfl (hb hby at_42) rfl) ?_
      show own_End p e below P (T2.setTop (mkF m 43 #[.val (.int p0), .val (.int p1), .val (.int p2), .val (.int p3), .val (.int k), .val (.ref op), .val (.int (own_f2 op p1 s_BinaryOperator_AND s_BinaryOperator_OR)), .unset, .unset, .unset, .unset, .unset] [(.int p1)]))
      by_cases hc48 : p1 = (0 : Int32)
      · refine own_st (fun _ => XS.ifYes X2.here hx rfl (pc0 := 43) (pc' := 50) rfl (hb hby at_43) rfl ((if0 _ _).trans (teq hc48).1) (by decide) (by decide)) ?_
        show own_End p e below P (T2.setTop (mkF m 50 #[.val (.int p0), .val (.int p1), .val (.int p2), .val (.int p3), .val (.int k), .val (.ref op), .val (.int (own_f2 op p1 s_BinaryOperator_AND s_BinaryOperator_OR)), .unset, .unset, .unset, .unset, .unset] []))
        refine own_st (fun _ => XS.iconst X2.here hx rfl (hb hby at_50)) ?_
        show own_End p e below P (T2.setTop (mkF m 51 #[.val (.int p0), .val (.int p1), .val (.int p2), .val (.int p3), .val (.int k), .val (.ref op), .val (.int (own_f2 op p1 s_BinaryOperator_AND s_BinaryOperator_OR)), .unset, .unset, .unset, .unset, .unset] [(.int (0 : Int32))]))
        exact J9 _ ((if_neg hc3).trans ((if_pos hc47).trans ((if_pos hc48).trans (rfl)))).symm
      · refine own_st (fun _ => XS.ifNo X2.here hx rfl (hb hby at_43) rfl ((if0 _ _).trans (feq hc48).1)) ?_
        show own_End p e below P (T2.setTop (mkF m 46 #[.val (.int p0), .val (.int p1), .val (.int p2), .val (.int p3), .val (.int k), .val (.ref op), .val (.int (own_f2 op p1 s_BinaryOperator_AND s_BinaryOperator_OR)), .unset, .unset, .unset, .unset, .unset] []))
        refine own_st (fun _ => XS.iconst X2.here hx rfl (hb hby at_46)) ?_
        show own_End p e below P (T2.setTop (mkF m 47 #[.val (.int p0), .val (.int p1), .val (.int p2), .val (.int p3), .val (.int k), .val (.ref op), .val (.int (own_f2 op p1 s_BinaryOperator_AND s_BinaryOperator_OR)), .unset, .unset, .unset, .unset, .unset] [(.int (1 : Int32))]))
        refine own_st (fun _ => XS.goto X2.here hx rfl (pc0 := 47) (pc' := 51) rfl (hb hby at_47) (by decide) (by decide)) ?_
        show own_End p e below P (T2.setTop (mkF m 51 #[.val (.int p0), .val (.int p1), .val (.int p2), .val (.int p3), .val (.int k), .val (.ref op), .val (.int (own_f2 op p1 s_BinaryOperator_AND s_BinaryOperator_OR)), .unset, .unset, .unset, .unset, .unset] [(.int (1 : Int32))]))
        exact J9 _ ((if_neg hc3).trans ((if_pos hc47).trans ((if_neg hc48).trans (rfl)))).symm
    · refine own_st (fun _ => XS.icmpYes X2.here hx rfl (pc0 := 39) (pc' := 50) rfl (hb hby at_39) rfl (feq hc47).2 (by decide) (by decide)) ?_
      show own_End p e below P (T2.setTop (mkF m 50 #[.val (.int p0), .val (.int p1), .val (.int p2), .val (.int p3), .val (.int k), .val (.ref op), .val (.int (own_f2 op p1 s_BinaryOperator_AND s_BinaryOperator_OR)), .unset, .unset, .unset, .unset, .unset] []))
      refine own_st (fun _ => XS.iconst X2.here hx rfl (hb hby at_50)) ?_
      show own_End p e below P (T2.setTop (mkF m 51 #[.val (.int p0), .val (.int p1), .val (.int p2), .val (.int p3), .val (.int k), .val (.ref op), .val (.int (own_f2 op p1 s_BinaryOperator_AND s_BinaryOperator_OR)), .unset, .unset, .unset, .unset, .unset] [(.int (0 : Int32))]))
      exact J9 _ ((if_neg hc3).trans ((if_neg hc47).trans (rfl))).symm
set_option maxRecDepth 65536 in
set_option maxHeartbeats 40000000 in
theorem comes_1 {Post : Tables → Env → Array Value → State → Outcome → State → Prop} (hpost : ∀ tb e args s v u, (limb_1_1.after args s (.returned v) u = true ∧ limb_1_2.after args s (.returned v) u = true ∧ True) → FrameEnd s (.returned v) u (Jvm.fieldLocs frame_1_writes args s ++ Jvm.arrayLocs frame_1_arrays args s ++ Jvm.staticLocs frame_1_statics s) 0 0 → Post tb e args s (.returned v) u) :
    ArmFor flags0 classFile x code maxLocals ret World_1 tables_1 room_1 Calls_1 rest_1 Pre_1 Post := by
  intro l hfl _ _ p e ha hc hk s m args below hf hA hF happ hP
  obtain ⟨hcalls, hrest, hpre⟩ := hP
  obtain ⟨-, -, -, hnamed, -, -, -, hat⟩ := (Spec.applies_iff hf).mp happ
  obtain ⟨hg, hn⟩ := and_e (Cond.before_iff.mp (show (Jvm.Cond.and given_1 narrow_1).before args s = true from hpre))
  obtain ⟨k1, l1⟩ := and_e hg
  obtain ⟨k2, l2⟩ := and_e l1
  obtain ⟨k3, l3⟩ := and_e l2
  obtain ⟨k4, l4⟩ := and_e l3
  obtain ⟨w0, w1, w2, w3, rfl⟩ : ∃ w0 w1 w2 w3 : Value, args = #[w0, w1, w2, w3] := by
    have hs : args.size = 4 := by simpa [Cond.value, given_1] using k1
    obtain ⟨L⟩ := args
    match L, hs with
    | [w0, w1, w2, w3], _ => exact ⟨w0, w1, w2, w3, rfl⟩
  have hw := fun d (hd : d ∈ tables_1) => atoms_spec (ws := Jvm.Cond.code x code maxLocals ret :: tables_1) hat d (List.mem_cons_of_mem _ hd)
  have hfit : Fit s := fun {y c} hc i hi => by
    obtain ⟨ha, rfl⟩ := Array.getElem?_eq_some_iff.mp hc
    have q := List.all_eq_true.mp ((Array.all_eq_true_iff_forall_mem.mp hF) _ (Array.getElem_mem ha)) i (List.mem_range.mpr hi)
    simpa [Array.getElem?_eq_getElem hi] using q
  obtain ⟨i0, ei0⟩ := is_v k2
  obtain rfl : w0 = (.int i0) := Option.some.inj ei0
  obtain ⟨i1, ei1⟩ := is_v k3
  obtain rfl : w1 = (.int i1) := Option.some.inj ei1
  obtain ⟨i2, ei2⟩ := is_v k4
  obtain rfl : w2 = (.int i2) := Option.some.inj ei2
  obtain ⟨i3, ei3⟩ := is_v l4
  obtain rfl : w3 = (.int i3) := Option.some.inj ei3
  obtain ⟨na1, nb1⟩ := and_e hn
  obtain ⟨na2, nb2⟩ := and_e nb1
  obtain ⟨na3, nb3⟩ := and_e nb2
  obtain ⟨na4, nb4⟩ := and_e nb3
  obtain ⟨na5, nb5⟩ := and_e nb4
  obtain ⟨na6, nb6⟩ := and_e nb5
  obtain ⟨na7, nb7⟩ := and_e nb6
  obtain ⟨na8, nb8⟩ := and_e nb7
  obtain ⟨na9, nb9⟩ := and_e nb8
  obtain ⟨na10, nb10⟩ := and_e nb9
  obtain ⟨na11, nb11⟩ := and_e nb10
  obtain ⟨na12, nb12⟩ := and_e nb11
  obtain ⟨na13, nb13⟩ := and_e nb12
  obtain ⟨na14, nb14⟩ := and_e nb13
  obtain ⟨na15, nb15⟩ := and_e nb14
  obtain ⟨na16, nb16⟩ := and_e nb15
  obtain ⟨na17, nb17⟩ := and_e nb16
  obtain ⟨na18, nb18⟩ := and_e nb17
  obtain ⟨na19, nb19⟩ := and_e nb18
  obtain ⟨na20, nb20⟩ := and_e nb19
  obtain ⟨na21, nb21⟩ := and_e nb20
  obtain ⟨na22, nb22⟩ := and_e nb21
  obtain ⟨na23, nb23⟩ := and_e nb22
  obtain ⟨na24, nb24⟩ := and_e nb23
  obtain ⟨na25, nb25⟩ := and_e nb24
  obtain ⟨b0, eb0⟩ := exa_v na1
  have E0 : Exa s s.heap b0 "com/example/interleaving_explorer/interleavingexplorer/lang/BinaryOperator" := Exa.start eb0 na1
  have S0 : Sta s s.heap "com/example/interleaving_explorer/interleavingexplorer/lang/BinaryOperator" "MULTIPLY" "Lcom/example/interleaving_explorer/interleavingexplorer/lang/BinaryOperator;" (.ref b0) := Sta.start eb0 (Or.inr ⟨(hw _ (List.mem_of_getElem? (i := 6) rfl)), (hw _ (List.mem_of_getElem? (i := 7) rfl))⟩)
  have F0 : Fld s s.heap b0 "java/lang/Enum" "ordinal" "I" (.int (0 : Int32)) := Fld.start ((fld_at eb0).symm.trans (own_eqInt na3))
  obtain ⟨b1, eb1⟩ := exa_v na7
  have E1 : Exa s s.heap b1 "com/example/interleaving_explorer/interleavingexplorer/lang/BinaryOperator" := Exa.start eb1 na7
  have S1 : Sta s s.heap "com/example/interleaving_explorer/interleavingexplorer/lang/BinaryOperator" "DIVIDE" "Lcom/example/interleaving_explorer/interleavingexplorer/lang/BinaryOperator;" (.ref b1) := Sta.start eb1 (Or.inr ⟨(hw _ (List.mem_of_getElem? (i := 6) rfl)), (hw _ (List.mem_of_getElem? (i := 36) rfl))⟩)
  have F1 : Fld s s.heap b1 "java/lang/Enum" "ordinal" "I" (.int (1 : Int32)) := Fld.start ((fld_at eb1).symm.trans (own_eqInt na8))
  obtain ⟨b2, eb2⟩ := exa_v na9
  have E2 : Exa s s.heap b2 "com/example/interleaving_explorer/interleavingexplorer/lang/BinaryOperator" := Exa.start eb2 na9
  have S2 : Sta s s.heap "com/example/interleaving_explorer/interleavingexplorer/lang/BinaryOperator" "REMAINDER" "Lcom/example/interleaving_explorer/interleavingexplorer/lang/BinaryOperator;" (.ref b2) := Sta.start eb2 (Or.inr ⟨(hw _ (List.mem_of_getElem? (i := 6) rfl)), (hw _ (List.mem_of_getElem? (i := 38) rfl))⟩)
  have F2 : Fld s s.heap b2 "java/lang/Enum" "ordinal" "I" (.int (2 : Int32)) := Fld.start ((fld_at eb2).symm.trans (own_eqInt na10))
  obtain ⟨b3, eb3⟩ := exa_v na11
  have E3 : Exa s s.heap b3 "com/example/interleaving_explorer/interleavingexplorer/lang/BinaryOperator" := Exa.start eb3 na11
  have S3 : Sta s s.heap "com/example/interleaving_explorer/interleavingexplorer/lang/BinaryOperator" "ADD" "Lcom/example/interleaving_explorer/interleavingexplorer/lang/BinaryOperator;" (.ref b3) := Sta.start eb3 (Or.inr ⟨(hw _ (List.mem_of_getElem? (i := 6) rfl)), (hw _ (List.mem_of_getElem? (i := 40) rfl))⟩)
  have F3 : Fld s s.heap b3 "java/lang/Enum" "ordinal" "I" (.int (3 : Int32)) := Fld.start ((fld_at eb3).symm.trans (own_eqInt na12))
  obtain ⟨b4, eb4⟩ := exa_v na19
  have E4 : Exa s s.heap b4 "com/example/interleaving_explorer/interleavingexplorer/lang/BinaryOperator" := Exa.start eb4 na19
  have S4 : Sta s s.heap "com/example/interleaving_explorer/interleavingexplorer/lang/BinaryOperator" "SUBTRACT" "Lcom/example/interleaving_explorer/interleavingexplorer/lang/BinaryOperator;" (.ref b4) := Sta.start eb4 (Or.inr ⟨(hw _ (List.mem_of_getElem? (i := 6) rfl)), (hw _ (List.mem_of_getElem? (i := 48) rfl))⟩)
  have F4 : Fld s s.heap b4 "java/lang/Enum" "ordinal" "I" (.int (4 : Int32)) := Fld.start ((fld_at eb4).symm.trans (own_eqInt na20))
  obtain ⟨b5, eb5⟩ := exa_v na17
  have E5 : Exa s s.heap b5 "com/example/interleaving_explorer/interleavingexplorer/lang/BinaryOperator" := Exa.start eb5 na17
  have S5 : Sta s s.heap "com/example/interleaving_explorer/interleavingexplorer/lang/BinaryOperator" "LESS" "Lcom/example/interleaving_explorer/interleavingexplorer/lang/BinaryOperator;" (.ref b5) := Sta.start eb5 (Or.inr ⟨(hw _ (List.mem_of_getElem? (i := 6) rfl)), (hw _ (List.mem_of_getElem? (i := 46) rfl))⟩)
  have F5 : Fld s s.heap b5 "java/lang/Enum" "ordinal" "I" (.int (5 : Int32)) := Fld.start ((fld_at eb5).symm.trans (own_eqInt na18))
  obtain ⟨b6, eb6⟩ := exa_v na15
  have E6 : Exa s s.heap b6 "com/example/interleaving_explorer/interleavingexplorer/lang/BinaryOperator" := Exa.start eb6 na15
  have S6 : Sta s s.heap "com/example/interleaving_explorer/interleavingexplorer/lang/BinaryOperator" "LESS_OR_EQUAL" "Lcom/example/interleaving_explorer/interleavingexplorer/lang/BinaryOperator;" (.ref b6) := Sta.start eb6 (Or.inr ⟨(hw _ (List.mem_of_getElem? (i := 6) rfl)), (hw _ (List.mem_of_getElem? (i := 44) rfl))⟩)
  have F6 : Fld s s.heap b6 "java/lang/Enum" "ordinal" "I" (.int (6 : Int32)) := Fld.start ((fld_at eb6).symm.trans (own_eqInt na16))
  obtain ⟨b7, eb7⟩ := exa_v na23
  have E7 : Exa s s.heap b7 "com/example/interleaving_explorer/interleavingexplorer/lang/BinaryOperator" := Exa.start eb7 na23
  have S7 : Sta s s.heap "com/example/interleaving_explorer/interleavingexplorer/lang/BinaryOperator" "GREATER" "Lcom/example/interleaving_explorer/interleavingexplorer/lang/BinaryOperator;" (.ref b7) := Sta.start eb7 (Or.inr ⟨(hw _ (List.mem_of_getElem? (i := 6) rfl)), (hw _ (List.mem_of_getElem? (i := 52) rfl))⟩)
  have F7 : Fld s s.heap b7 "java/lang/Enum" "ordinal" "I" (.int (7 : Int32)) := Fld.start ((fld_at eb7).symm.trans (own_eqInt na24))
  obtain ⟨b8, eb8⟩ := exa_v na13
  have E8 : Exa s s.heap b8 "com/example/interleaving_explorer/interleavingexplorer/lang/BinaryOperator" := Exa.start eb8 na13
  have S8 : Sta s s.heap "com/example/interleaving_explorer/interleavingexplorer/lang/BinaryOperator" "GREATER_OR_EQUAL" "Lcom/example/interleaving_explorer/interleavingexplorer/lang/BinaryOperator;" (.ref b8) := Sta.start eb8 (Or.inr ⟨(hw _ (List.mem_of_getElem? (i := 6) rfl)), (hw _ (List.mem_of_getElem? (i := 42) rfl))⟩)
  have F8 : Fld s s.heap b8 "java/lang/Enum" "ordinal" "I" (.int (8 : Int32)) := Fld.start ((fld_at eb8).symm.trans (own_eqInt na14))
  obtain ⟨b9, eb9⟩ := exa_v na21
  have E9 : Exa s s.heap b9 "com/example/interleaving_explorer/interleavingexplorer/lang/BinaryOperator" := Exa.start eb9 na21
  have S9 : Sta s s.heap "com/example/interleaving_explorer/interleavingexplorer/lang/BinaryOperator" "EQUAL" "Lcom/example/interleaving_explorer/interleavingexplorer/lang/BinaryOperator;" (.ref b9) := Sta.start eb9 (Or.inr ⟨(hw _ (List.mem_of_getElem? (i := 6) rfl)), (hw _ (List.mem_of_getElem? (i := 50) rfl))⟩)
  have F9 : Fld s s.heap b9 "java/lang/Enum" "ordinal" "I" (.int (9 : Int32)) := Fld.start ((fld_at eb9).symm.trans (own_eqInt na22))
  obtain ⟨b10, eb10⟩ := exa_v na25
  have E10 : Exa s s.heap b10 "com/example/interleaving_explorer/interleavingexplorer/lang/BinaryOperator" := Exa.start eb10 na25
  have S10 : Sta s s.heap "com/example/interleaving_explorer/interleavingexplorer/lang/BinaryOperator" "NOT_EQUAL" "Lcom/example/interleaving_explorer/interleavingexplorer/lang/BinaryOperator;" (.ref b10) := Sta.start eb10 (Or.inr ⟨(hw _ (List.mem_of_getElem? (i := 6) rfl)), (hw _ (List.mem_of_getElem? (i := 54) rfl))⟩)
  have F10 : Fld s s.heap b10 "java/lang/Enum" "ordinal" "I" (.int (10 : Int32)) := Fld.start ((fld_at eb10).symm.trans (own_eqInt nb25))
  obtain ⟨b11, eb11⟩ := exa_v na2
  have E11 : Exa s s.heap b11 "com/example/interleaving_explorer/interleavingexplorer/lang/BinaryOperator" := Exa.start eb11 na2
  have S11 : Sta s s.heap "com/example/interleaving_explorer/interleavingexplorer/lang/BinaryOperator" "AND" "Lcom/example/interleaving_explorer/interleavingexplorer/lang/BinaryOperator;" (.ref b11) := Sta.start eb11 (Or.inr ⟨(hw _ (List.mem_of_getElem? (i := 6) rfl)), (hw _ (List.mem_of_getElem? (i := 14) rfl))⟩)
  have F11 : Fld s s.heap b11 "java/lang/Enum" "ordinal" "I" (.int (11 : Int32)) := Fld.start ((fld_at eb11).symm.trans (own_eqInt na4))
  obtain ⟨b12, eb12⟩ := exa_v na5
  have E12 : Exa s s.heap b12 "com/example/interleaving_explorer/interleavingexplorer/lang/BinaryOperator" := Exa.start eb12 na5
  have S12 : Sta s s.heap "com/example/interleaving_explorer/interleavingexplorer/lang/BinaryOperator" "OR" "Lcom/example/interleaving_explorer/interleavingexplorer/lang/BinaryOperator;" (.ref b12) := Sta.start eb12 (Or.inr ⟨(hw _ (List.mem_of_getElem? (i := 6) rfl)), (hw _ (List.mem_of_getElem? (i := 16) rfl))⟩)
  have F12 : Fld s s.heap b12 "java/lang/Enum" "ordinal" "I" (.int (12 : Int32)) := Fld.start ((fld_at eb12).symm.trans (own_eqInt na6))
  obtain ⟨n, o, h1, h2, h3, _, L, rfl, ⟨rfl, N⟩, hq⟩ := own_m0 l s _ hw tables_1 i0 i1 i2 i3 b0 b1 b2 b3 b4 b5 b6 b7 b8 b9 b10 b11 b12 s.heap s.heap.size (Nat.le_refl _) E0 E1 E2 E3 E4 E5 E6 E7 E8 E9 E10 E11 E12 F0 F1 F2 F3 F4 F5 F6 F7 F8 F9 F10 F11 F12 S0 S1 S2 S3 S4 S5 S6 S7 S8 S9 S10 S11 S12 p e ha hc hk s m _ below hf ((Spec.applies_iff_loose hf).mp happ).1 ⟨rfl, State.Warmed39.refl s, rfl⟩ trivial
  refine ⟨n, _, h1, h2, h3, hpost _ _ _ _ _ _ ⟨Cond.after_iff.mpr rfl, Cond.after_iff.mpr (eq_i res_at (Term.int_eval (1)) rfl), trivial⟩ ⟨hq.1, hq.2.1, (hq.2.2.sift fun y hy => Or.inr (N y hy)).mono (by decide) (by decide)⟩⟩
theorem main_1_1 : Claimed_1_1 := comes_1 fun _ _ _ _ _ _ h hF => ⟨h.1, hF⟩
theorem main_1_2 : Claimed_1_2 := comes_1 fun _ _ _ _ _ _ h hF => ⟨h.2.1, hF⟩
end Jvm.Pilot.@@N@@
namespace Jvm.Pilot.@@N@@
open Jvm Jvm.ClassFile Sem Op Lib Jvm.Free Jvm.Stand Jvm.Pilot.@@N@@.Jvm.D
/-! MADE BY PROGRAM (witnessworld.py) out of the Statement's table words and the real class files: 12 classes; the members and pool entries that the words name. The judged class is class 1, her method 2. -/
namespace start1
open Jvm.ClassFile
def u (s : String) : CpInfo := .utf8 (stringToUtf16 s)
/-- a pool by its gaps: so many unusable entries, then the entry; so many at the end -/
def gap : Nat → List CpInfo → List CpInfo
  | 0, r => r
  | n + 1, r => .unusable :: gap n r
def poolList (es : List (Nat × CpInfo)) (last : Nat) : List CpInfo := es.foldr (fun e r => gap e.1 (e.2 :: r)) (gap last [])
def pool (es : List (Nat × CpInfo)) (last : Nat) : Array CpInfo := ⟨poolList es last⟩
def fileOf (pool : Array CpInfo) (this : Nat) (attrs : Array Attribute := #[]) (ms : Array MethodInfo := #[]) (fl : Nat := 33) (sup : Nat := 0) (ifs : Array Nat := #[]) (fds : Array FieldInfo := #[]) : ClassFile where
  minorVersion := 0
  majorVersion := 65
  constantPool := pool
  accessFlags := fl
  thisClass := this
  superClass := sup
  interfaces := ifs
  fields := fds
  methods := ms
  attributes := attrs
def plain (name : String) (sup : Option ClassId) : Class where
  name := name
  kind := .ordinary
  loader := none
  accessFlags := 33
  super := sup
  interfaces := #[]
  cf := none
  fields := #[]
  methods := #[]
  instanceTypes := #[]
  staticTypes := #[]
  resolved := #[]
  callSites := []
  init := .initialized
  statics := none
  mirror := none

def pool0 : Array CpInfo := pool [(5, u "<init>"), (0, u "()V"), (1, .class_ 10), (1, u "java/lang/Object")] 113

def k0m0 : Method := { name := "<init>", desc := "()V", sig := { parameters := [], returnType := none }, accessFlags := 1, code := none }
/-- java/lang/Object -/
def k0 : Class := { plain "java/lang/Object" none with
  accessFlags := 33
  interfaces := #[]
  cf := some (fileOf pool0 8 #[] #[{ accessFlags := 1, nameIndex := 5, descriptorIndex := 6, attributes := #[] }] 33 0 #[] #[])
  fields := #[]
  methods := #[k0m0]
  instanceTypes := #[]
  staticTypes := #[]
  resolved := Array.replicate 124 none
  statics := none }

def pool1 : Array CpInfo := pool [(2, .class_ 4), (1, u "java/lang/Object"), (0, u "<init>"), (0, u "()V"), (0, .fieldref 8 9), (0, .class_ 10), (0, .nameAndType 11 12), (0, u "com/example/interleaving_explorer/interleavingexplorer/lang/BinaryOperator"), (0, u "MULTIPLY"), (0, u "Lcom/example/interleaving_explorer/interleavingexplorer/lang/BinaryOperator;"), (0, .fieldref 8 14), (0, .nameAndType 15 12), (0, u "DIVIDE"), (0, .fieldref 8 17), (0, .nameAndType 18 12), (0, u "REMAINDER"), (0, .fieldref 8 20), (0, .nameAndType 21 12), (0, u "ADD"), (0, .fieldref 8 23), (0, .nameAndType 24 12), (0, u "SUBTRACT"), (0, .fieldref 8 26), (0, .nameAndType 27 12), (0, u "LESS"), (0, .fieldref 8 29), (0, .nameAndType 30 12), (0, u "LESS_OR_EQUAL"), (0, .fieldref 8 32), (0, .nameAndType 33 12), (0, u "GREATER"), (0, .fieldref 8 35), (0, .nameAndType 36 12), (0, u "GREATER_OR_EQUAL"), (0, .fieldref 8 38), (0, .nameAndType 39 12), (0, u "EQUAL"), (0, .fieldref 8 41), (0, .nameAndType 42 12), (0, u "NOT_EQUAL"), (0, .fieldref 8 44), (0, .nameAndType 45 12), (0, u "AND"), (0, .fieldref 8 47), (0, .nameAndType 48 12), (0, u "OR"), (0, .integer 2147483647), (0, .methodref 51 52), (0, .class_ 53), (0, .nameAndType 54 55), (0, u "com/example/interleaving_explorer/interleavingexplorer/lang/BinaryOperatorIsDecidedByPinLaw"), (0, u "pick"), (0, u "(I)Lcom/example/interleaving_explorer/interleavingexplorer/lang/BinaryOperator;"), (0, .methodref 8 57), (0, .nameAndType 58 59), (0, u "isDecidedBy"), (0, u "(I)Z"), (0, .methodref 8 61), (0, .nameAndType 62 63), (0, u "apply"), (0, u "(II)I"), (3, u "law"), (0, u "(IIII)Z")] 2

def k1m0 : Method := { name := "<init>", desc := "()V", sig := { parameters := [], returnType := none }, accessFlags := 1, code := none }
def k1c1 : Code := { maxStack := 2, maxLocals := 1, code := method_2_code, exceptionTable := #[], attributes := #[] }
def k1m1 : Method := { name := "pick", desc := "(I)Lcom/example/interleaving_explorer/interleavingexplorer/lang/BinaryOperator;", sig := { parameters := [.int], returnType := some (.object "com/example/interleaving_explorer/interleavingexplorer/lang/BinaryOperator") }, accessFlags := 10, code := some k1c1 }
def k1c2 : Code := { maxStack := 3, maxLocals := 12, code := code, exceptionTable := #[], attributes := #[] }
def k1m2 : Method := { name := "law", desc := "(IIII)Z", sig := { parameters := [.int, .int, .int, .int], returnType := some .boolean }, accessFlags := 9, code := some k1c2 }
/-- com/example/interleaving_explorer/interleavingexplorer/lang/BinaryOperatorIsDecidedByPinLaw -/
def k1 : Class := { plain "com/example/interleaving_explorer/interleavingexplorer/lang/BinaryOperatorIsDecidedByPinLaw" (some 0) with
  accessFlags := 49
  interfaces := #[]
  cf := some (fileOf pool1 51 #[] #[{ accessFlags := 1, nameIndex := 5, descriptorIndex := 6, attributes := #[] }, { accessFlags := 10, nameIndex := 54, descriptorIndex := 55, attributes := #[] }, { accessFlags := 9, nameIndex := 67, descriptorIndex := 68, attributes := #[] }] 49 2 #[] #[])
  fields := #[]
  methods := #[k1m0, k1m1, k1m2]
  instanceTypes := #[]
  staticTypes := #[]
  resolved := Array.replicate 71 none
  statics := none }

def pool2 : Array CpInfo := pool [(1, .class_ 2), (0, u "java/lang/constant/Constable"), (0, .class_ 4), (0, u "java/lang/Object")] 6

/-- java/lang/constant/Constable -/
def k2 : Class := { plain "java/lang/constant/Constable" (some 0) with
  accessFlags := 1537
  interfaces := #[]
  cf := some (fileOf pool2 1 #[] #[] 1537 3 #[] #[])
  fields := #[]
  methods := #[]
  instanceTypes := #[]
  staticTypes := #[]
  resolved := Array.replicate 11 none
  statics := none }

def pool3 : Array CpInfo := pool [(1, .class_ 2), (0, u "java/lang/Comparable"), (0, .class_ 4), (0, u "java/lang/Object")] 7

/-- java/lang/Comparable -/
def k3 : Class := { plain "java/lang/Comparable" (some 0) with
  accessFlags := 1537
  interfaces := #[]
  cf := some (fileOf pool3 1 #[] #[] 1537 3 #[] #[])
  fields := #[]
  methods := #[]
  instanceTypes := #[]
  staticTypes := #[]
  resolved := Array.replicate 12 none
  statics := none }

def pool4 : Array CpInfo := pool [(1, .class_ 2), (0, u "java/io/Serializable"), (0, .class_ 4), (0, u "java/lang/Object")] 2

/-- java/io/Serializable -/
def k4 : Class := { plain "java/io/Serializable" (some 0) with
  accessFlags := 1537
  interfaces := #[]
  cf := some (fileOf pool4 1 #[] #[] 1537 3 #[] #[])
  fields := #[]
  methods := #[]
  instanceTypes := #[]
  staticTypes := #[]
  resolved := Array.replicate 7 none
  statics := none }

def pool5 : Array CpInfo := pool [(2, .class_ 4), (1, u "java/lang/Enum"), (0, u "name"), (0, u "Ljava/lang/String;"), (0, .fieldref 2 8), (0, .nameAndType 9 10), (0, u "ordinal"), (0, u "I"), (1, .class_ 14), (1, u "java/lang/Object"), (4, u "hash"), (86, .class_ 108), (1, u "java/lang/Enum$EnumDesc"), (2, .class_ 112), (0, u "java/lang/constant/Constable"), (0, .class_ 114), (0, u "java/lang/Comparable"), (0, .class_ 116), (0, u "java/io/Serializable"), (9, u "()I")] 77

def k5c0 : Code := { maxStack := 1, maxLocals := 1, code := jdk_37_method_2_code, exceptionTable := #[], attributes := #[] }
def k5m0 : Method := { name := "ordinal", desc := "()I", sig := { parameters := [], returnType := some .int }, accessFlags := 17, code := some k5c0 }
/-- java/lang/Enum -/
def k5 : Class := { plain "java/lang/Enum" (some 0) with
  accessFlags := 1057
  interfaces := #[2, 3, 4]
  cf := some (fileOf pool5 2 #[.nestMembers #[106]] #[{ accessFlags := 17, nameIndex := 9, descriptorIndex := 126, attributes := #[] }] 1057 12 #[111, 113, 115] #[{ accessFlags := 18, nameIndex := 5, descriptorIndex := 6, attributes := #[] }, { accessFlags := 18, nameIndex := 9, descriptorIndex := 10, attributes := #[] }, { accessFlags := 2, nameIndex := 19, descriptorIndex := 10, attributes := #[] }])
  fields := #[{ name := "name", type := (.object "java/lang/String"), accessFlags := 18, slot := 0, constantValue := 0 }, { name := "ordinal", type := .int, accessFlags := 18, slot := 1, constantValue := 0 }, { name := "hash", type := .int, accessFlags := 2, slot := 2, constantValue := 0 }]
  methods := #[k5m0]
  instanceTypes := #[(.object "java/lang/String"), .int, .int]
  staticTypes := #[]
  resolved := Array.replicate 204 none
  statics := none }

def pool6 : Array CpInfo := pool [(1, .class_ 2), (0, u "com/example/interleaving_explorer/interleavingexplorer/lang/BinaryOperator"), (2, u "MULTIPLY"), (0, u "Lcom/example/interleaving_explorer/interleavingexplorer/lang/BinaryOperator;"), (0, .fieldref 1 8), (0, .nameAndType 9 6), (0, u "DIVIDE"), (0, .fieldref 1 11), (0, .nameAndType 12 6), (0, u "REMAINDER"), (2, u "ADD"), (2, u "SUBTRACT"), (2, u "LESS"), (2, u "LESS_OR_EQUAL"), (2, u "GREATER"), (2, u "GREATER_OR_EQUAL"), (2, u "EQUAL"), (2, u "NOT_EQUAL"), (0, .fieldref 1 38), (0, .nameAndType 39 6), (0, u "AND"), (0, .fieldref 1 41), (0, .nameAndType 42 6), (0, u "OR"), (2, u "$VALUES"), (0, u "[Lcom/example/interleaving_explorer/interleavingexplorer/lang/BinaryOperator;"), (6, .class_ 55), (1, u "java/lang/Enum"), (8, u "symbol"), (0, u "Ljava/lang/String;"), (2, u "precedence"), (0, u "I"), (10, u "BY_SYMBOL"), (0, u "Ljava/util/Map;"), (21, .methodref 1 104), (0, .nameAndType 105 106), (0, u "ordinal"), (0, u "()I"), (5, .methodref 1 113), (0, .nameAndType 114 115), (0, u "fromBoolean"), (0, u "(Z)I"), (68, u "isDecidedBy"), (0, u "(I)Z"), (1, u "apply"), (0, u "(II)I")] 4

def k6c0 : Code := { maxStack := 2, maxLocals := 2, code := prog_36_method_7_code, exceptionTable := #[], attributes := #[] }
def k6m0 : Method := { name := "isDecidedBy", desc := "(I)Z", sig := { parameters := [.int], returnType := some .boolean }, accessFlags := 1, code := some k6c0 }
def k6c1 : Code := { maxStack := 4, maxLocals := 4, code := prog_36_method_8_code, exceptionTable := #[], attributes := #[] }
def k6m1 : Method := { name := "apply", desc := "(II)I", sig := { parameters := [.int, .int], returnType := some .int }, accessFlags := 1, code := some k6c1 }
def k6c2 : Code := { maxStack := 1, maxLocals := 1, code := prog_36_method_9_code, exceptionTable := #[], attributes := #[] }
def k6m2 : Method := { name := "fromBoolean", desc := "(Z)I", sig := { parameters := [.boolean], returnType := some .int }, accessFlags := 10, code := some k6c2 }
/-- com/example/interleaving_explorer/interleavingexplorer/lang/BinaryOperator -/
def k6 : Class := { plain "com/example/interleaving_explorer/interleavingexplorer/lang/BinaryOperator" (some 5) with
  accessFlags := 16433
  interfaces := #[]
  cf := some (fileOf pool6 1 #[] #[{ accessFlags := 1, nameIndex := 184, descriptorIndex := 185, attributes := #[] }, { accessFlags := 1, nameIndex := 187, descriptorIndex := 188, attributes := #[] }, { accessFlags := 10, nameIndex := 114, descriptorIndex := 115, attributes := #[] }] 16433 53 #[] #[{ accessFlags := 16409, nameIndex := 5, descriptorIndex := 6, attributes := #[] }, { accessFlags := 16409, nameIndex := 9, descriptorIndex := 6, attributes := #[] }, { accessFlags := 16409, nameIndex := 12, descriptorIndex := 6, attributes := #[] }, { accessFlags := 16409, nameIndex := 15, descriptorIndex := 6, attributes := #[] }, { accessFlags := 16409, nameIndex := 18, descriptorIndex := 6, attributes := #[] }, { accessFlags := 16409, nameIndex := 21, descriptorIndex := 6, attributes := #[] }, { accessFlags := 16409, nameIndex := 24, descriptorIndex := 6, attributes := #[] }, { accessFlags := 16409, nameIndex := 27, descriptorIndex := 6, attributes := #[] }, { accessFlags := 16409, nameIndex := 30, descriptorIndex := 6, attributes := #[] }, { accessFlags := 16409, nameIndex := 33, descriptorIndex := 6, attributes := #[] }, { accessFlags := 16409, nameIndex := 36, descriptorIndex := 6, attributes := #[] }, { accessFlags := 16409, nameIndex := 39, descriptorIndex := 6, attributes := #[] }, { accessFlags := 16409, nameIndex := 42, descriptorIndex := 6, attributes := #[] }, { accessFlags := 26, nameIndex := 80, descriptorIndex := 81, attributes := #[] }, { accessFlags := 18, nameIndex := 64, descriptorIndex := 65, attributes := #[] }, { accessFlags := 18, nameIndex := 68, descriptorIndex := 69, attributes := #[] }, { accessFlags := 4122, nameIndex := 45, descriptorIndex := 46, attributes := #[] }])
  fields := #[{ name := "MULTIPLY", type := (.object "com/example/interleaving_explorer/interleavingexplorer/lang/BinaryOperator"), accessFlags := 16409, slot := 0, constantValue := 0 }, { name := "DIVIDE", type := (.object "com/example/interleaving_explorer/interleavingexplorer/lang/BinaryOperator"), accessFlags := 16409, slot := 1, constantValue := 0 }, { name := "REMAINDER", type := (.object "com/example/interleaving_explorer/interleavingexplorer/lang/BinaryOperator"), accessFlags := 16409, slot := 2, constantValue := 0 }, { name := "ADD", type := (.object "com/example/interleaving_explorer/interleavingexplorer/lang/BinaryOperator"), accessFlags := 16409, slot := 3, constantValue := 0 }, { name := "SUBTRACT", type := (.object "com/example/interleaving_explorer/interleavingexplorer/lang/BinaryOperator"), accessFlags := 16409, slot := 4, constantValue := 0 }, { name := "LESS", type := (.object "com/example/interleaving_explorer/interleavingexplorer/lang/BinaryOperator"), accessFlags := 16409, slot := 5, constantValue := 0 }, { name := "LESS_OR_EQUAL", type := (.object "com/example/interleaving_explorer/interleavingexplorer/lang/BinaryOperator"), accessFlags := 16409, slot := 6, constantValue := 0 }, { name := "GREATER", type := (.object "com/example/interleaving_explorer/interleavingexplorer/lang/BinaryOperator"), accessFlags := 16409, slot := 7, constantValue := 0 }, { name := "GREATER_OR_EQUAL", type := (.object "com/example/interleaving_explorer/interleavingexplorer/lang/BinaryOperator"), accessFlags := 16409, slot := 8, constantValue := 0 }, { name := "EQUAL", type := (.object "com/example/interleaving_explorer/interleavingexplorer/lang/BinaryOperator"), accessFlags := 16409, slot := 9, constantValue := 0 }, { name := "NOT_EQUAL", type := (.object "com/example/interleaving_explorer/interleavingexplorer/lang/BinaryOperator"), accessFlags := 16409, slot := 10, constantValue := 0 }, { name := "AND", type := (.object "com/example/interleaving_explorer/interleavingexplorer/lang/BinaryOperator"), accessFlags := 16409, slot := 11, constantValue := 0 }, { name := "OR", type := (.object "com/example/interleaving_explorer/interleavingexplorer/lang/BinaryOperator"), accessFlags := 16409, slot := 12, constantValue := 0 }, { name := "BY_SYMBOL", type := (.object "java/util/Map"), accessFlags := 26, slot := 13, constantValue := 0 }, { name := "symbol", type := (.object "java/lang/String"), accessFlags := 18, slot := 3, constantValue := 0 }, { name := "precedence", type := .int, accessFlags := 18, slot := 4, constantValue := 0 }, { name := "$VALUES", type := (.array (.object "com/example/interleaving_explorer/interleavingexplorer/lang/BinaryOperator")), accessFlags := 4122, slot := 14, constantValue := 0 }]
  methods := #[k6m0, k6m1, k6m2]
  instanceTypes := #[(.object "java/lang/String"), .int, .int, (.object "java/lang/String"), .int]
  staticTypes := #[(.object "com/example/interleaving_explorer/interleavingexplorer/lang/BinaryOperator"), (.object "com/example/interleaving_explorer/interleavingexplorer/lang/BinaryOperator"), (.object "com/example/interleaving_explorer/interleavingexplorer/lang/BinaryOperator"), (.object "com/example/interleaving_explorer/interleavingexplorer/lang/BinaryOperator"), (.object "com/example/interleaving_explorer/interleavingexplorer/lang/BinaryOperator"), (.object "com/example/interleaving_explorer/interleavingexplorer/lang/BinaryOperator"), (.object "com/example/interleaving_explorer/interleavingexplorer/lang/BinaryOperator"), (.object "com/example/interleaving_explorer/interleavingexplorer/lang/BinaryOperator"), (.object "com/example/interleaving_explorer/interleavingexplorer/lang/BinaryOperator"), (.object "com/example/interleaving_explorer/interleavingexplorer/lang/BinaryOperator"), (.object "com/example/interleaving_explorer/interleavingexplorer/lang/BinaryOperator"), (.object "com/example/interleaving_explorer/interleavingexplorer/lang/BinaryOperator"), (.object "com/example/interleaving_explorer/interleavingexplorer/lang/BinaryOperator"), (.object "java/util/Map"), (.array (.object "com/example/interleaving_explorer/interleavingexplorer/lang/BinaryOperator"))]
  resolved := Array.replicate 193 none
  statics := some 0 }

def pool7 : Array CpInfo := pool [(1, u "java/lang/Cloneable"), (0, .class_ 1), (0, u "java/lang/Object"), (0, .class_ 3)] 3

/-- java/lang/Cloneable -/
def k7 : Class := { plain "java/lang/Cloneable" (some 0) with
  accessFlags := 1537
  interfaces := #[]
  cf := some (fileOf pool7 2 #[] #[] 1537 4 #[] #[])
  fields := #[]
  methods := #[]
  instanceTypes := #[]
  staticTypes := #[]
  resolved := Array.replicate 8 none
  statics := none }

/-- the primitive byte -/
def k8 : Class := { plain "byte" none with kind := .primitive 'B', accessFlags := 0x411 }
/-- [B -/
def k9 : Class := { plain "[B" (some 0) with kind := .array 8 .byte, interfaces := #[7, 4], accessFlags := 1041 }

/-- the primitive int -/
def k10 : Class := { plain "int" none with kind := .primitive 'I', accessFlags := 0x411 }
/-- [I -/
def k11 : Class := { plain "[I" (some 0) with kind := .array 10 .int, interfaces := #[7, 4], accessFlags := 1041 }

def heap : Heap := #[{ cls := 6, slots := #[.ref 1, .ref 2, .ref 3, .ref 4, .ref 5, .ref 6, .ref 7, .ref 8, .ref 9, .ref 10, .ref 11, .ref 12, .ref 13, .null, .null], vm := .statics 6 },
  { cls := 6, slots := #[.null, .int 0, .int 0, .null, .int 0], vm := .none },
  { cls := 6, slots := #[.null, .int 1, .int 0, .null, .int 0], vm := .none },
  { cls := 6, slots := #[.null, .int 2, .int 0, .null, .int 0], vm := .none },
  { cls := 6, slots := #[.null, .int 3, .int 0, .null, .int 0], vm := .none },
  { cls := 6, slots := #[.null, .int 4, .int 0, .null, .int 0], vm := .none },
  { cls := 6, slots := #[.null, .int 5, .int 0, .null, .int 0], vm := .none },
  { cls := 6, slots := #[.null, .int 6, .int 0, .null, .int 0], vm := .none },
  { cls := 6, slots := #[.null, .int 7, .int 0, .null, .int 0], vm := .none },
  { cls := 6, slots := #[.null, .int 8, .int 0, .null, .int 0], vm := .none },
  { cls := 6, slots := #[.null, .int 9, .int 0, .null, .int 0], vm := .none },
  { cls := 6, slots := #[.null, .int 10, .int 0, .null, .int 0], vm := .none },
  { cls := 6, slots := #[.null, .int 11, .int 0, .null, .int 0], vm := .none },
  { cls := 6, slots := #[.null, .int 12, .int 0, .null, .int 0], vm := .none }]
def classes : Array Class := #[k0, k1, k2, k3, k4, k5, k6, k7, k8, k9, k10, k11]
def interned : List (Array UInt16 × Addr) := []
def slotsUsed : Nat := 80
def theMethod : MethodId := ⟨1, 2⟩
def args0 : Array Value := #[.int 5, .int 6, .int 7, .int 8]
def aboutOver (below : List Frame) : State where
  vm := { classes := classes, interned := interned.toArray }
  heap := heap
  slotsUsed := slotsUsed
  threads := #[{ frames := .invoking theMethod args0 :: below }]
def below0 : List Frame := [.native { method := ⟨0, 0⟩, args := #[] }]
def about1 : State := aboutOver below0
def p0 : Program := .bare "" "" ""
def e0 : Env := launch0.env 0 0 0
theorem w_frames : about1.frames = Frame.invoking theMethod args0 :: below0 := rfl
set_option maxRecDepth 65536 in
theorem w_args : argsFit about1.vm theMethod args0 = true := by decide +kernel
set_option maxRecDepth 65536 in
theorem w_heap : heapFits about1 = true := by decide +kernel
set_option maxRecDepth 65536 in
theorem w_runnable : about1.curStatus? = some .runnable := by decide +kernel
set_option maxRecDepth 65536 in
theorem w_alone : about1.alone = true := by decide +kernel
set_option maxRecDepth 65536 in
theorem w_named : about1.methodNamed? x = some theMethod := by decide +kernel
set_option maxRecDepth 65536 in
theorem w_hears : about1.hears theMethod below0 = true := by decide +kernel
set_option maxRecDepth 65536 in
theorem w_ripe : about1.ripe theMethod args0 below0 = true := by decide +kernel
theorem w_running : about1.status = .running := rfl
set_option maxRecDepth 65536 in
theorem w_room : about1.hasRoom e0.platform room_1 = true :=
  launch0.hasRoom_least _ room_1 (by decide +kernel) (by decide +kernel) (by decide +kernel) (by decide +kernel) (by decide +kernel) (by decide +kernel)
theorem allAtoms_all (ts : List Jvm.Cond) (a : Array Jvm.Value) (st : Jvm.State) : (allAtoms ts).before a st = ts.all (fun c => c.before a st) := by
  induction ts with
  | nil => rfl
  | cons c t ih =>
    show (Jvm.Cond.and c (allAtoms t)).before a st = _
    rw [Jvm.Cond.before_and, ih, List.all_cons]
def words1 : List Jvm.Cond := Jvm.Cond.code x code maxLocals ret :: tables_1
/-- a 'code' word, met by the world's own term for the bytes: nothing is compared byte by byte -/
theorem code_word {y : MethodName} {bytes : ByteArray} {mx : Nat} {rt : Option FieldType} {a : Array Value} {s : State} {m : MethodId} {meth : Method} {c : Code} (h1 : s.methodNamed? y = some m) (h2 : s.vm.method? m = some meth) (h3 : meth.code = some c) (h4 : c.code = bytes)
    (h5 : (c.maxLocals == mx && c.exceptionTable.isEmpty && decide (c.maxStack ≤ mostOperands) && decide (meth.sig.returnType = rt) && !meth.locks && decide (parseMethodDescriptor y.desc = some meth.sig)) = true) : (Jvm.Cond.code y bytes mx rt).before a s = true := by
  simp only [Bool.and_eq_true, beq_iff_eq, Bool.not_eq_true', decide_eq_true_eq] at h5
  obtain ⟨⟨⟨⟨⟨g1, g2⟩, g3⟩, g4⟩, g5⟩, g6⟩ := h5
  simp [Cond.before, Cond.holds, Cond.value, h1, h2, h3, h4, g1, g2, g3, g4, g5, g6]
def isCode : Jvm.Cond → Bool
  | .code _ _ _ _ => true
  | _ => false
theorem all_split {L : List Jvm.Cond} {P : Jvm.Cond → Bool} (h1 : L.all (fun c => isCode c || P c) = true) (h2 : ∀ c ∈ L.filter isCode, P c = true) : L.all P = true := by
  refine List.all_eq_true.mpr fun c hc => ?_
  have h := List.all_eq_true.mp h1 c hc
  rcases Bool.eq_false_or_eq_true (isCode c) with hi | hi
  · exact h2 c (List.mem_filter.mpr ⟨hc, hi⟩)
  · simpa [hi] using h
set_option maxRecDepth 65536 in
theorem w_c0 : (Jvm.Cond.code x code maxLocals ret).before args0 about1 = true := code_word (m := ⟨1, 2⟩) (meth := k1m2) (c := k1c2) (by decide +kernel) rfl rfl rfl (by decide +kernel)
set_option maxRecDepth 65536 in
theorem w_c1 : (Jvm.Cond.code ({ cls := "com/example/interleaving_explorer/interleavingexplorer/lang/BinaryOperatorIsDecidedByPinLaw", name := "pick", desc := "(I)Lcom/example/interleaving_explorer/interleavingexplorer/lang/BinaryOperator;" } : Jvm.MethodName) method_2_code (1 : Nat) (Option.some (Jvm.ClassFile.FieldType.object "com/example/interleaving_explorer/interleavingexplorer/lang/BinaryOperator"))).before args0 about1 = true := code_word (m := ⟨1, 1⟩) (meth := k1m1) (c := k1c1) (by decide +kernel) rfl rfl rfl (by decide +kernel)
set_option maxRecDepth 65536 in
theorem w_c2 : (Jvm.Cond.code ({ cls := "com/example/interleaving_explorer/interleavingexplorer/lang/BinaryOperator", name := "isDecidedBy", desc := "(I)Z" } : Jvm.MethodName) prog_36_method_7_code (2 : Nat) (Option.some Jvm.ClassFile.FieldType.boolean)).before args0 about1 = true := code_word (m := ⟨6, 0⟩) (meth := k6m0) (c := k6c0) (by decide +kernel) rfl rfl rfl (by decide +kernel)
set_option maxRecDepth 65536 in
theorem w_c3 : (Jvm.Cond.code ({ cls := "com/example/interleaving_explorer/interleavingexplorer/lang/BinaryOperator", name := "apply", desc := "(II)I" } : Jvm.MethodName) prog_36_method_8_code (4 : Nat) (Option.some Jvm.ClassFile.FieldType.int)).before args0 about1 = true := code_word (m := ⟨6, 1⟩) (meth := k6m1) (c := k6c1) (by decide +kernel) rfl rfl rfl (by decide +kernel)
set_option maxRecDepth 65536 in
theorem w_c4 : (Jvm.Cond.code ({ cls := "java/lang/Enum", name := "ordinal", desc := "()I" } : Jvm.MethodName) jdk_37_method_2_code (1 : Nat) (Option.some Jvm.ClassFile.FieldType.int)).before args0 about1 = true := code_word (m := ⟨5, 0⟩) (meth := k5m0) (c := k5c0) (by decide +kernel) rfl rfl rfl (by decide +kernel)
set_option maxRecDepth 65536 in
theorem w_c5 : (Jvm.Cond.code ({ cls := "com/example/interleaving_explorer/interleavingexplorer/lang/BinaryOperator", name := "fromBoolean", desc := "(Z)I" } : Jvm.MethodName) prog_36_method_9_code (1 : Nat) (Option.some Jvm.ClassFile.FieldType.int)).before args0 about1 = true := code_word (m := ⟨6, 2⟩) (meth := k6m2) (c := k6c2) (by decide +kernel) rfl rfl rfl (by decide +kernel)
def codes1 : List Jvm.Cond := [Jvm.Cond.code x code maxLocals ret, Jvm.Cond.code ({ cls := "com/example/interleaving_explorer/interleavingexplorer/lang/BinaryOperatorIsDecidedByPinLaw", name := "pick", desc := "(I)Lcom/example/interleaving_explorer/interleavingexplorer/lang/BinaryOperator;" } : Jvm.MethodName) method_2_code (1 : Nat) (Option.some (Jvm.ClassFile.FieldType.object "com/example/interleaving_explorer/interleavingexplorer/lang/BinaryOperator")), Jvm.Cond.code ({ cls := "com/example/interleaving_explorer/interleavingexplorer/lang/BinaryOperator", name := "isDecidedBy", desc := "(I)Z" } : Jvm.MethodName) prog_36_method_7_code (2 : Nat) (Option.some Jvm.ClassFile.FieldType.boolean), Jvm.Cond.code ({ cls := "com/example/interleaving_explorer/interleavingexplorer/lang/BinaryOperator", name := "apply", desc := "(II)I" } : Jvm.MethodName) prog_36_method_8_code (4 : Nat) (Option.some Jvm.ClassFile.FieldType.int), Jvm.Cond.code ({ cls := "java/lang/Enum", name := "ordinal", desc := "()I" } : Jvm.MethodName) jdk_37_method_2_code (1 : Nat) (Option.some Jvm.ClassFile.FieldType.int), Jvm.Cond.code ({ cls := "com/example/interleaving_explorer/interleavingexplorer/lang/BinaryOperator", name := "fromBoolean", desc := "(Z)I" } : Jvm.MethodName) prog_36_method_9_code (1 : Nat) (Option.some Jvm.ClassFile.FieldType.int)]
set_option maxRecDepth 65536 in
theorem codes_eq : words1.filter isCode = codes1 := rfl
theorem w_codes : ∀ c ∈ words1.filter isCode, c.before args0 about1 = true := by
  rw [codes_eq]
  intro c hc
  simp only [codes1, List.mem_cons, List.not_mem_nil, or_false] at hc
  rcases hc with rfl | rfl | rfl | rfl | rfl | rfl
  · exact w_c0
  · exact w_c1
  · exact w_c2
  · exact w_c3
  · exact w_c4
  · exact w_c5
set_option maxRecDepth 65536 in
theorem w_t1 : (words1.take 24).all (fun c => isCode c || c.before args0 about1) = true := by decide +kernel
set_option maxRecDepth 65536 in
theorem w_t2 : ((words1.drop 24).take 24).all (fun c => isCode c || c.before args0 about1) = true := by decide +kernel
set_option maxRecDepth 65536 in
theorem w_t3 : ((words1.drop 24).drop 24).all (fun c => isCode c || c.before args0 about1) = true := by decide +kernel
theorem w_tables : (allAtoms (Jvm.Cond.code x code maxLocals ret :: tables_1)).before args0 about1 = true := by
  rw [allAtoms_all]
  show words1.all (fun c => c.before args0 about1) = true
  refine all_split ?_ w_codes
  rw [← List.take_append_drop 24 words1, List.all_append, w_t1, ← List.take_append_drop 24 (words1.drop 24), List.all_append, w_t2, w_t3]
  rfl
set_option maxRecDepth 65536 in
theorem w_case : (Jvm.Cond.and given_1 narrow_1).before args0 about1 = true := by decide +kernel
theorem w_applies : (headSpec (Jvm.Cond.code x code maxLocals ret :: tables_1) room_1).applies x e0.platform about1 = true :=
  (Spec.applies_iff w_frames).mpr ⟨w_running, w_runnable, w_alone, w_named, w_hears, w_ripe, w_room, w_tables⟩
theorem atStart : AtStart classFile x code maxLocals ret World_1 tables_1 room_1 Calls_1 rest_1 Pre_1 launch0 p0 e0 about1 theMethod args0 below0 :=
  ⟨lists_1, trivial, launch0.admits_env _ _ _, launch0.least_env, fairChoices_fair.cas, fairChoices_fair.clock, w_frames, w_args, w_heap, w_applies, trivial, trivial, w_case⟩
end start1
theorem witness_1 : WitnessClaimed_1 := ⟨start1.p0, start1.e0, start1.about1, start1.theMethod, start1.args0, start1.below0, start1.atStart⟩
end Jvm.Pilot.@@N@@
