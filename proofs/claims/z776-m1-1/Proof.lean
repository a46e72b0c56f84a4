import JvmDerived
import JvmDerived.Pilot.@@N@@Statement
import JvmDerived.Pilot.@@N@@Code
set_option linter.unusedVariables false
set_option linter.unusedSimpArgs false
namespace Jvm.RoadKit
open Sem ClassFile Op Lib Jvm.Stand Jvm.Free Jvm.LawKit
section New
variable {p : Program} {l : Launch} {e : Env} {R : Room} {s : State} {m : MethodId} {args : Array Value} {below : List Frame} {meth : Method} {c : Code} {T : State} {locs : List Loc} {cells slots : Nat}
theorem retI (X : Stand p l e R s m args below meth c T locs cells slots) (hx : p.tables.exec = Jvm.exec) {pc : Nat} {Ls : Array Slot} {z : Int32} {rest : List Value} (hret : meth.sig.returnType = some .int) (hd : decode c.code pc = .ok (.ireturn, 1)) {fs : List Frame}
    (hl : ∀ (f : JFrame) (acts : List Action), f.method = m → f.locked = none → f.entered = [] → (doReturn e (T.setTop f) acts (some (.int z))).1 = T.setFrames fs) : Steps p.tables e below (T.setTop (mkF m pc Ls (.int z :: rest))) (T.setFrames fs) := by
  have hm' : T.vm.method? m = some meth := X.method'
  have hn : narrow .int (.int z) = .int z := rfl
  show Steps p.tables e below (T.setTop { method := m, pc := pc, locals := Ls, stack := _ :: rest, locked := none }) _
  jvm_step X.here [X.here.top, hx, hd, hm', hret, hn]
  first | (intro acts; rw [hl _ acts rfl rfl rfl]) | rw [hl _ _ rfl rfl rfl]
  exact Steps.refl _
end New
end Jvm.RoadKit
@@BLOCK:NumsL.lean.txt@@
namespace Jvm.Pilot.@@N@@
open Jvm Jvm.ClassFile Sem Op Lib Jvm.Free Jvm.Stand Jvm.LawKit Jvm.RoadKit Bundle Jvm.Pilot.@@N@@.Jvm.D
def own_End (p : Program) (e : Env) (below : List Frame) (P : Outcome → State → Prop) (S : State) : Prop :=
  ∃ s₂ o, Steps p.tables e below S s₂ ∧ s₂.status = .running ∧ Ended s₂ below o ∧ P o s₂
abbrev own_Met (l : Launch) (Z : State) (y : MethodName) (bytes : ByteArray) (maxL : Nat) (rt : Option FieldType) (ws : List Jvm.Cond) (rm : Room) (as' : Array Value) (h0 : Heap) (Q : Option Value → Heap → List Loc → Prop) : Prop :=
  MetFree l y (head1 (Jvm.Cond.code y bytes maxL rt :: ws) rm) (fun a U => a = as' ∧ Z.Warmed39 U.vm ∧ U.heap = h0) (fun _ _ _ _ _ => True) (fun _ U o U' => ∃ v L, o = .returned v ∧ Q v U'.heap L ∧ FrameEnd U o U' L rm.cells rm.slots)
def own_Ok (Q : Option Value → Heap → List Loc → Prop) (s : State) (kc ks : Nat) (P : Outcome → State → Prop) : Prop := ∀ v U L, Q v U.heap L → FrameEnd s (.returned v) U L kc ks → P (.returned v) U
section Own
variable {p : Program} {l : Launch} {e : Env} {R : Room} {s : State} {m : MethodId} {args : Array Value} {below : List Frame} {meth : Method} {c : Code} {T : State} {locs : List Loc} {cells slots : Nat} {Z : State} {a0 : Array Value} {h : Heap} {P : Outcome → State → Prop}
theorem own_st {S S' : State} (q : ∀ t, Steps p.tables e below S' t → Steps p.tables e below S t) (k : own_End p e below P S') : own_End p e below P S := by
  obtain ⟨a, b, c, d⟩ := k
  exact ⟨a, b, q _ c, d⟩
theorem own_tr {S S' : State} (q : Steps p.tables e below S S') (k : own_End p e below P S') : own_End p e below P S := own_st (fun _ r => q.trans r) k
theorem own_enter {y : MethodName} {bytes : ByteArray} {maxL : Nat} {rt : Option FieldType} {ws : List Jvm.Cond} {rm : Room} {as' : Array Value} {h0 : Heap} {Q : Option Value → Heap → List Loc → Prop} (hpl : plainFor y = true)
    (body : ∀ (p : Program) (e : Env) (s : State) (m : MethodId) (below : List Frame) (meth : Method) (c : Code) (s₁ : State) (P : Outcome → State → Prop), p.tables.exec = Jvm.exec → c.code = bytes → c.maxLocals = maxL → meth.sig.returnType = rt → meth.locks = false → s.vm.findClass y.cls = some m.cls → meth.name = y.name → Z.Warmed39 s.vm →
      Stand p l e rm s m as' below meth c s₁ [] 0 0 → s₁.heap = h0 → own_Ok Q s rm.cells rm.slots P → own_End p e below P (s₁.setTop (entryFrame m as' maxL))) :
    own_Met l Z y bytes maxL rt ws rm as' h0 Q := by
  refine MetFree.of_bodySF hpl hisR ?_
  intro p e s m args below meth c s₁ Bd hml0 hP hK
  obtain ⟨rfl, hZ, hh⟩ := hP
  exact body p e s m below meth c s₁ _ Bd.exec Bd.bytes hml0 Bd.returns Bd.notSynchronized (findClass_of_methodNamed Bd.named) (name_of_methodNamed Bd.named Bd.method).1 hZ (Stand.of_body Bd) (by rw [← hh, Bd.state]; rfl) (fun v U L q f => ⟨v, L, rfl, q, f⟩)
theorem own_cast {g g' : JFrame} (q : g = g') (k : own_End p e below P (T.setTop g')) : own_End p e below P (T.setTop g) := q ▸ k
theorem own_retI (X : Stand p l e R s m args below meth c T locs cells slots) (hx : p.tables.exec = Jvm.exec) (hlk : meth.locks = false) {kc ks : Nat} {Q : Option Value → Heap → List Loc → Prop} (hP : own_Ok Q s kc ks P)
    {pc : Nat} {Ls : Array Slot} {z : Int32} {rest : List Value} (hret : meth.sig.returnType = some .int) (hd : decode c.code pc = .ok (.ireturn, 1)) (h1 : cells ≤ kc) (h2 : slots ≤ ks) (hq : Q (some (.int z)) T.heap locs) : own_End p e below P (T.setTop (mkF m pc Ls (.int z :: rest))) := by
  obtain ⟨fs, hr, hrun, hended, hW, hsame⟩ := X.leave (v := some (.int z)) (fun h => by rw [hret] at h; cases h) hlk
  exact ⟨_, _, retI X hx hret hd hr, hrun, hended, hP _ _ locs hq ⟨⟨_, rfl⟩, hW, hsame.mono h1 h2⟩⟩
theorem own_retN (X : Stand p l e R s m args below meth c T locs cells slots) (hx : p.tables.exec = Jvm.exec) (hlk : meth.locks = false) {kc ks : Nat} {Q : Option Value → Heap → List Loc → Prop} (hP : own_Ok Q s kc ks P)
    {pc : Nat} {Ls : Array Slot} {z : Int32} {t : FieldType} {rest : List Value} (ht : t = .boolean ∨ t = .byte ∨ t = .char ∨ t = .short) (hret : meth.sig.returnType = some t) (hd : decode c.code pc = .ok (.ireturn, 1)) (h1 : cells ≤ kc) (h2 : slots ≤ ks) (hq : Q (some (.int (nar t z))) T.heap locs) : own_End p e below P (T.setTop (mkF m pc Ls (.int z :: rest))) := by
  obtain ⟨fs, hr, hrun, hended, hW, hsame⟩ := X.leave (v := some (.int (nar t z))) (fun h => by rw [hret] at h; cases h) hlk
  exact ⟨_, _, retN X hx hret ht hd hr, hrun, hended, hP _ _ locs hq ⟨⟨_, rfl⟩, hW, hsame.mono h1 h2⟩⟩
theorem own_retL (X : Stand p l e R s m args below meth c T locs cells slots) (hx : p.tables.exec = Jvm.exec) (hlk : meth.locks = false) {kc ks : Nat} {Q : Option Value → Heap → List Loc → Prop} (hP : own_Ok Q s kc ks P)
    {pc : Nat} {Ls : Array Slot} {z : Int64} {rest : List Value} (hret : meth.sig.returnType = some .long) (hd : decode c.code pc = .ok (.lreturn, 1)) (h1 : cells ≤ kc) (h2 : slots ≤ ks) (hq : Q (some (.long z)) T.heap locs) : own_End p e below P (T.setTop (mkF m pc Ls (.long z :: rest))) := by
  obtain ⟨fs, hr, hrun, hended, hW, hsame⟩ := X.leave (v := some (.long z)) (fun h => by rw [hret] at h; cases h) hlk
  exact ⟨_, _, retOut X hx hret rfl (Or.inr (Or.inl ⟨rfl, rfl, z, rfl⟩)) hd hr, hrun, hended, hP _ _ locs hq ⟨⟨_, rfl⟩, hW, hsame.mono h1 h2⟩⟩
theorem own_retR (X : Stand p l e R s m args below meth c T locs cells slots) (hx : p.tables.exec = Jvm.exec) (hlk : meth.locks = false) {kc ks : Nat} {Q : Option Value → Heap → List Loc → Prop} (hP : own_Ok Q s kc ks P)
    {pc : Nat} {Ls : Array Slot} {w : Value} {t : FieldType} {rest : List Value} (hw : w.isRef = true) (ht : t.isReference = true) (hret : meth.sig.returnType = some t) (hd : decode c.code pc = .ok (.areturn, 1)) (h1 : cells ≤ kc) (h2 : slots ≤ ks) (hq : Q (some w) T.heap locs) : own_End p e below P (T.setTop (mkF m pc Ls (w :: rest))) := by
  obtain ⟨fs, hr, hrun, hended, hW, hsame⟩ := X.leave (v := some w) (fun h => by rw [hret] at h; cases h) hlk
  have hn : narrow t w = w := by rcases ref_cases hw with rfl | ⟨a, rfl⟩ <;> cases t <;> rfl
  exact ⟨_, _, retOut X hx hret hn (Or.inr (Or.inr (Or.inr (Or.inr ⟨rfl, ht, hw⟩)))) hd hr, hrun, hended, hP _ _ locs hq ⟨⟨_, rfl⟩, hW, hsame.mono h1 h2⟩⟩
theorem own_retV (X : Stand p l e R s m args below meth c T locs cells slots) (hx : p.tables.exec = Jvm.exec) (hlk : meth.locks = false) {kc ks : Nat} {Q : Option Value → Heap → List Loc → Prop} (hP : own_Ok Q s kc ks P)
    {pc : Nat} {Ls : Array Slot} (hret : meth.sig.returnType = none) (hd : decode c.code pc = .ok (.return_, 1)) (h1 : cells ≤ kc) (h2 : slots ≤ ks) (hq : Q none T.heap locs) : own_End p e below P (T.setTop (mkF m pc Ls [])) := by
  obtain ⟨fs, hr, hrun, hended, hW, hsame⟩ := X.leave (v := none) (fun _ => rfl) hlk
  exact ⟨_, _, X.returnOut hx hret hd hr, hrun, hended, hP _ _ locs hq ⟨⟨_, rfl⟩, hW, hsame.mono h1 h2⟩⟩
theorem own_callS (X : Stand p l e R s m args below meth c T locs cells slots) (hx : p.tables.exec = Jvm.exec) (hZ : Z.Warmed39 s.vm) {own : String} {index : Nat} {y : MethodName} {bytes : ByteArray} {maxL : Nat} {rt : Option FieldType} {rm : Room} {as' : Array Value} {Q : Option Value → Heap → List Loc → Prop}
    (hown : s.vm.findClass own = some m.cls) (w1 : (Jvm.Cond.methodLink own index y).before a0 Z = true) (w2 : (Jvm.Cond.static y).before a0 Z = true) (w3 : (Jvm.Cond.initialized y.cls).before a0 Z = true) (w4 : (Jvm.Cond.code y bytes maxL rt).before a0 Z = true) (hy : y.cls ≠ "java/lang/invoke/MethodHandle" ∧ y.cls ≠ "java/lang/invoke/VarHandle")
    (hM : own_Met l Z y bytes maxL rt [] rm as' h Q) (W : Nat) (hf : rm.frames + 1 ≤ R.frames) (hl : W + (maxL + 11) + rm.locals ≤ R.locals) (eT : T.heap = h) (hc : cells + rm.cells ≤ R.cells) (hs : slots + rm.slots ≤ R.slots)
    {g : JFrame} (hg : g.method = m) (hsize : g.locals.size = c.maxLocals) {argsL rest : List Value} (ha : argsL.toArray = as') (hlen : ∀ sig, parseMethodDescriptor y.desc = some sig → argsL.length = sig.parameters.length) (hstack : g.stack = argsL.reverse ++ rest) (hW : 2 * g.monitorRoom + (rest.map fun v => v.category).sum ≤ W) (hdg : decode c.code g.pc = .ok (.invokestatic index, 3))
    (k : ∀ v T' L, Stand p l e R s m args below meth c T' (locs ++ L) (cells + rm.cells) (slots + rm.slots) → Q v T'.heap L → own_End p e below P (T'.setTop { g with pc := g.pc + 3, stack := v.toList ++ rest })) : own_End p e below P (T.setTop g) := by
  obtain ⟨v, vm₁, ⟨T', L', k', n'⟩, -, X', ⟨L, hQ, h1, h2, h3⟩, st⟩ := Jvm.LawKit.callS X hx hown (mvT hZ w1) (mvT hZ w2) (mvT hZ w3) (mvT hZ w4) hy (backOf (W := W) hM hZ w4 w3 hf hl) hg hsize hlen hstack hW hdg (fun _ _ => ⟨ha, eT, hc, hs⟩)
  dsimp only [Pt.U, Pt.locs, Pt.cells, Pt.slots] at X' h1 h2 h3 st hQ
  subst h1 h2 h3
  exact own_st st (k v T' L X' hQ)
theorem own_callI (X : Stand p l e R s m args below meth c T locs cells slots) (hx : p.tables.exec = Jvm.exec) (hZ : Z.Warmed39 s.vm) {own : String} {index : Nat} {y : MethodName} {bytes : ByteArray} {maxL : Nat} {rm : Room} {as' : Array Value} {Q : Option Value → Heap → List Loc → Prop}
    (hy1 : y.name = "<init>") (hown : s.vm.findClass own = some m.cls) (w1 : (Jvm.Cond.methodLink own index y).before a0 Z = true) (w2 : (Jvm.Cond.instanceMethod y).before a0 Z = true) (w3 : (Jvm.Cond.initialized y.cls).before a0 Z = true) (w4 : (Jvm.Cond.code y bytes maxL none).before a0 Z = true) (hy : y.cls ≠ "java/lang/invoke/MethodHandle" ∧ y.cls ≠ "java/lang/invoke/VarHandle")
    (hM : own_Met l Z y bytes maxL none [] rm as' h Q) (W : Nat) (hf : rm.frames + 1 ≤ R.frames) (hl : W + (maxL + 11) + rm.locals ≤ R.locals) (eT : T.heap = h) (hc : cells + rm.cells ≤ R.cells) (hs : slots + rm.slots ≤ R.slots)
    {g : JFrame} (hg : g.method = m) (hsize : g.locals.size = c.maxLocals) {a : Addr} {argsL rest : List Value} (ha : (Value.ref a :: argsL).toArray = as') (hlen : ∀ sig, parseMethodDescriptor y.desc = some sig → argsL.length = sig.parameters.length) (hstack : g.stack = argsL.reverse ++ .ref a :: rest) (hW : 2 * g.monitorRoom + (rest.map fun v => v.category).sum ≤ W) (hdg : decode c.code g.pc = .ok (.invokespecial index, 3))
    (k : ∀ v T' L, Stand p l e R s m args below meth c T' (locs ++ L) (cells + rm.cells) (slots + rm.slots) → Q v T'.heap L → own_End p e below P (T'.setTop { g with pc := g.pc + 3, stack := v.toList ++ rest })) : own_End p e below P (T.setTop g) := by
  obtain ⟨v, vm₁, ⟨T', L', k', n'⟩, -, X', ⟨L, hQ, h1, h2, h3⟩, st⟩ := X.specialBack hx hy1 hown (mvT hZ w1) (mvT hZ w2) (mvT hZ w4) hy (backOf (W := W) hM hZ w4 w3 hf hl) hg hsize (Steps.refl _) hlen hstack hW hdg (fun _ _ => ⟨ha, eT, hc, hs⟩)
  dsimp only [Pt.U, Pt.locs, Pt.cells, Pt.slots] at X' h1 h2 h3 st hQ
  subst h1 h2 h3
  exact own_tr st (k v T' L X' hQ)
theorem own_callV (X : Stand p l e R s m args below meth c T locs cells slots) (hx : p.tables.exec = Jvm.exec) (hZ : Z.Warmed39 s.vm) {own C : String} {index : Nat} {y z : MethodName} {bytes : ByteArray} {maxL : Nat} {rt : Option FieldType} {rm : Room} {as' : Array Value} {Q : Option Value → Heap → List Loc → Prop}
    (hown : s.vm.findClass own = some m.cls) (w1 : (Jvm.Cond.methodLink own index y).before a0 Z = true) (w2 : (Jvm.Cond.declares y).before a0 Z = true) (hnf : NotFace s y) (w5 : (Jvm.Cond.selects C y z).before a0 Z = true) (w6 : (Jvm.Cond.instanceMethod z).before a0 Z = true) (w3 : (Jvm.Cond.initialized z.cls).before a0 Z = true) (w4 : (Jvm.Cond.code z bytes maxL rt).before a0 Z = true) (hy : y.cls ≠ "java/lang/invoke/MethodHandle" ∧ y.cls ≠ "java/lang/invoke/VarHandle")
    {a : Addr} (E : Exa Z h a C) (hM : own_Met l Z z bytes maxL rt [] rm as' h Q) (W : Nat) (hf : rm.frames + 1 ≤ R.frames) (hl : W + (maxL + 11) + rm.locals ≤ R.locals) (eT : T.heap = h) (hc : cells + rm.cells ≤ R.cells) (hs : slots + rm.slots ≤ R.slots)
    {g : JFrame} (hg : g.method = m) (hsize : g.locals.size = c.maxLocals) {argsL rest : List Value} (ha : (Value.ref a :: argsL).toArray = as') (hlen : ∀ sig, parseMethodDescriptor y.desc = some sig → argsL.length = sig.parameters.length) (hstack : g.stack = argsL.reverse ++ .ref a :: rest) (hW : 2 * g.monitorRoom + (rest.map fun v => v.category).sum ≤ W) (hdg : decode c.code g.pc = .ok (.invokevirtual index, 3))
    (k : ∀ v T' L, Stand p l e R s m args below meth c T' (locs ++ L) (cells + rm.cells) (slots + rm.slots) → Q v T'.heap L → own_End p e below P (T'.setTop { g with pc := g.pc + 3, stack := v.toList ++ rest })) : own_End p e below P (T.setTop g) := by
  obtain ⟨cB, kB, q1, q2, q3⟩ := isOf hZ eT E
  obtain ⟨v, vm₁, ⟨T', L', k', n'⟩, -, X', ⟨L, hQ, h1, h2, h3⟩, st⟩ := X.virtualBack hx (y := y) (z := z) hown (mvT hZ w1) (mvT hZ w2) hnf (mvT hZ w5) (mvT hZ w6) hy (backOf (W := W) hM hZ w4 w3 hf hl) q1 q3 hg hsize (Steps.refl _) hlen hstack hW hdg (fun _ _ => ⟨ha, eT, hc, hs⟩)
  dsimp only [Pt.U, Pt.locs, Pt.cells, Pt.slots] at X' h1 h2 h3 st hQ
  subst h1 h2 h3
  exact own_tr st (k v T' L X' hQ)
theorem own_callU (X : Stand p l e R s m args below meth c T locs cells slots) (hx : p.tables.exec = Jvm.exec) (hZ : Z.Warmed39 s.vm) {own C owner : String} {index : Nat} {x y : MethodName} {bytes : ByteArray} {maxL : Nat} {rt : Option FieldType} {rm : Room} {as' : Array Value} {Q : Option Value → Heap → List Loc → Prop}
    (hown : s.vm.findClass own = some m.cls) (w1 : (Jvm.Cond.methodLink own index x).before a0 Z = true) (w2 : (Jvm.Cond.sameMethod x.cls owner x.name x.desc).before a0 Z = true) (w7 : (Jvm.Cond.declares ⟨owner, x.name, x.desc⟩).before a0 Z = true) (hy : owner ≠ "java/lang/invoke/MethodHandle" ∧ owner ≠ "java/lang/invoke/VarHandle") (w5 : (Jvm.Cond.selects C x y).before a0 Z = true) (w6 : (Jvm.Cond.instanceMethod y).before a0 Z = true) (w3 : (Jvm.Cond.initialized y.cls).before a0 Z = true) (w4 : (Jvm.Cond.code y bytes maxL rt).before a0 Z = true)
    {a : Addr} (E : Exa Z h a C) (hM : own_Met l Z y bytes maxL rt [] rm as' h Q) (W : Nat) (hf : rm.frames + 1 ≤ R.frames) (hl : W + (maxL + 11) + rm.locals ≤ R.locals) (eT : T.heap = h) (hc : cells + rm.cells ≤ R.cells) (hs : slots + rm.slots ≤ R.slots)
    {g : JFrame} (hg : g.method = m) (hsize : g.locals.size = c.maxLocals) {argsL rest : List Value} (ha : (Value.ref a :: argsL).toArray = as') (hlen : ∀ sig, parseMethodDescriptor x.desc = some sig → argsL.length = sig.parameters.length) (hstack : g.stack = argsL.reverse ++ .ref a :: rest) (hW : 2 * g.monitorRoom + (rest.map fun v => v.category).sum ≤ W) (hdg : decode c.code g.pc = .ok (.invokevirtual index, 3))
    (k : ∀ v T' L, Stand p l e R s m args below meth c T' (locs ++ L) (cells + rm.cells) (slots + rm.slots) → Q v T'.heap L → own_End p e below P (T'.setTop { g with pc := g.pc + 3, stack := v.toList ++ rest })) : own_End p e below P (T.setTop g) := by
  obtain ⟨cB, kB, q1, q2, q3⟩ := isOf hZ eT E
  obtain ⟨v, vm₁, ⟨T', L', k', n'⟩, -, X', ⟨L, hQ, h1, h2, h3⟩, st⟩ := X.virtualBackUp hx (x := x) (y := y) hown (mvT hZ w1) (mvT hZ w2) (mvT hZ w7) hy (mvT hZ w5) (mvT hZ w6) (backOf (W := W) hM hZ w4 w3 hf hl) q1 q3 hg hsize (Steps.refl _) hlen hstack hW hdg (fun _ _ => ⟨ha, eT, hc, hs⟩)
  dsimp only [Pt.U, Pt.locs, Pt.cells, Pt.slots] at X' h1 h2 h3 st hQ
  subst h1 h2 h3
  exact own_tr st (k v T' L X' hQ)
theorem own_lt {x y : Int64} : lcmpW x y < 0 ↔ x < y := by rw [lcW]; exact lc_lt x y
theorem own_gt {x y : Int64} : 0 < lcmpW x y ↔ y < x := by rw [lcW]; exact lc_gt x y
theorem own_eq {x y : Int64} : lcmpW x y = 0 ↔ x = y := by rw [lcW]; exact lc_eq x y
theorem own_eqInt {first : State} {o : Option Outcome} {idx : List Nat} {t : Term} {k : Int32} (q : (Jvm.Cond.eq t (.int k)).value args first o s idx = some true) : t.eval args first o idx s = some (.int k) := by
  obtain ⟨x, y, e1, e2, k1, k2⟩ := cmp_v (Or.inl q)
  rw [Term.int_eval] at e2
  cases e2
  obtain ⟨z, rfl⟩ := k2
  rw [e1, gotT (Cond.eq_ints e1 (Term.int_eval k)) q]
end Own
theorem own_d1_0 : decode prog_99_method_15_code 0 = .ok (.iload_n 0, 1) := by decide +kernel
theorem own_d1_1 : decode prog_99_method_15_code 1 = .ok (.bipush 32, 2) := by decide +kernel
theorem own_d1_3 : decode prog_99_method_15_code 3 = .ok (.if_icmp .eq 21, 3) := by decide +kernel
theorem own_d1_24 : decode prog_99_method_15_code 24 = .ok (.iconst 1, 1) := by decide +kernel
theorem own_d1_25 : decode prog_99_method_15_code 25 = .ok (.goto 4, 3) := by decide +kernel
theorem own_d1_29 : decode prog_99_method_15_code 29 = .ok (.ireturn, 1) := by decide +kernel
theorem own_d1_6 : decode prog_99_method_15_code 6 = .ok (.iload_n 0, 1) := by decide +kernel
theorem own_d1_7 : decode prog_99_method_15_code 7 = .ok (.bipush 9, 2) := by decide +kernel
theorem own_d1_9 : decode prog_99_method_15_code 9 = .ok (.if_icmp .eq 15, 3) := by decide +kernel
theorem own_d1_12 : decode prog_99_method_15_code 12 = .ok (.iload_n 0, 1) := by decide +kernel
theorem own_d1_13 : decode prog_99_method_15_code 13 = .ok (.bipush 10, 2) := by decide +kernel
theorem own_d1_15 : decode prog_99_method_15_code 15 = .ok (.if_icmp .eq 9, 3) := by decide +kernel
theorem own_d1_18 : decode prog_99_method_15_code 18 = .ok (.iload_n 0, 1) := by decide +kernel
theorem own_d1_19 : decode prog_99_method_15_code 19 = .ok (.bipush 13, 2) := by decide +kernel
theorem own_d1_21 : decode prog_99_method_15_code 21 = .ok (.if_icmp .ne 7, 3) := by decide +kernel
theorem own_d1_28 : decode prog_99_method_15_code 28 = .ok (.iconst 0, 1) := by decide +kernel
theorem own_ef1 (m : MethodId) (p0 : Int32) : entryFrame m #[(.int p0)] 1 = mkF m 0 #[.val (.int p0)] [] := by first | (simp [entryFrame, mkF, argsToLocals, Value.category]; done) | rfl
def own_f1 (p0 : Int32) : Int32 := (if p0 = (32 : Int32) then (1 : Int32) else (if p0 = (9 : Int32) then (1 : Int32) else (if p0 = (10 : Int32) then (1 : Int32) else (if p0 = (13 : Int32) then (1 : Int32) else (0 : Int32)))))
theorem own_pn_com_example_tallywire_tallywire_engine_ValueType : plainName "com/example/tallywire/tallywire/engine/ValueType" = true := by first | (simp [plainName, overriddenIn]; done) | decide +kernel
set_option maxRecDepth 65536 in
set_option maxHeartbeats 40000000 in
theorem own_m1 (l : Launch) (Z : State) (a0 : Array Value) (hw : ∀ d ∈ tables_1, d.before a0 Z = true) (ws : List Jvm.Cond) (p0 : Int32)  (h0 : Heap) (n0 : Nat) (Z0 : n0 ≤ h0.size)  :
    own_Met l Z (⟨"com/example/tallywire/tallywire/engine/ValueType", "isXmlWhitespace", "(C)Z"⟩ : MethodName) prog_99_method_15_code 1 (some .boolean) ws ({ frames := 0, cells := 0, slots := 0, locals := 0 } : Room) #[(.int p0)] h0 (fun (v : Option Value) (h : Heap) (L : List Loc) => v = some (.int (own_f1 p0)) ∧ Fr n0 L ∧ h = h0) := by
  refine own_enter (plainFor_of_name own_pn_com_example_tallywire_tallywire_engine_ValueType) ?_
  intro p e s m below meth c s₁ P hx hby hml hrt hlk hown hnm hZ X0 e0 hP
  have N0 := Fr.nil n0
  have K0 := Keep.refl h0 []
  have hml' : c.maxLocals = 1 := hml
  refine own_cast (own_ef1 m p0) ?_
  show own_End p e below P (s₁.setTop (mkF m 0 #[.val (.int p0)] []))
  refine own_st (fun _ => XS.iloadN X0.here hx rfl (hb hby own_d1_0) rfl) ?_
  show own_End p e below P (s₁.setTop (mkF m 1 #[.val (.int p0)] [(.int p0)]))
  refine own_st (fun _ => XS.bipush X0.here hx rfl (hb hby own_d1_1)) ?_
  show own_End p e below P (s₁.setTop (mkF m 3 #[.val (.int p0)] [(.int (32 : Int32)), (.int p0)]))
  by_cases hc1 : p0 = (32 : Int32)
  · refine own_st (fun _ => XS.icmpYes X0.here hx rfl (pc0 := 3) (pc' := 24) rfl (hb hby own_d1_3) rfl (teq hc1).1 (by decide) (by decide)) ?_
    show own_End p e below P (s₁.setTop (mkF m 24 #[.val (.int p0)] []))
    refine own_st (fun _ => XS.iconst X0.here hx rfl (hb hby own_d1_24)) ?_
    show own_End p e below P (s₁.setTop (mkF m 25 #[.val (.int p0)] [(.int (1 : Int32))]))
    refine own_st (fun _ => XS.goto X0.here hx rfl (pc0 := 25) (pc' := 29) rfl (hb hby own_d1_25) (by decide) (by decide)) ?_
    show own_End p e below P (s₁.setTop (mkF m 29 #[.val (.int p0)] [(.int (1 : Int32))]))
    refine own_retN X0 hx hlk hP (t := .boolean) (by simp) hrt (hb hby own_d1_29) (by decide) (by decide) ⟨congrArg (fun z => some (Value.int z)) ?_, N0, e0⟩
    exact (show own_f1 p0 = (1 : Int32) from (if_pos hc1).trans (rfl)).symm
  · refine own_st (fun _ => XS.icmpNo X0.here hx rfl (hb hby own_d1_3) rfl (feq hc1).1) ?_
    show own_End p e below P (s₁.setTop (mkF m 6 #[.val (.int p0)] []))
    refine own_st (fun _ => XS.iloadN X0.here hx rfl (hb hby own_d1_6) rfl) ?_
    show own_End p e below P (s₁.setTop (mkF m 7 #[.val (.int p0)] [(.int p0)]))
    refine own_st (fun _ => XS.bipush X0.here hx rfl (hb hby own_d1_7)) ?_
    show own_End p e below P (s₁.setTop (mkF m 9 #[.val (.int p0)] [(.int (9 : Int32)), (.int p0)]))
    by_cases hc2 : p0 = (9 : Int32)
    · refine own_st (fun _ => XS.icmpYes X0.here hx rfl (pc0 := 9) (pc' := 24) rfl (hb hby own_d1_9) rfl (teq hc2).1 (by decide) (by decide)) ?_
      show own_End p e below P (s₁.setTop (mkF m 24 #[.val (.int p0)] []))
      refine own_st (fun _ => XS.iconst X0.here hx rfl (hb hby own_d1_24)) ?_
      show own_End p e below P (s₁.setTop (mkF m 25 #[.val (.int p0)] [(.int (1 : Int32))]))
      refine own_st (fun _ => XS.goto X0.here hx rfl (pc0 := 25) (pc' := 29) rfl (hb hby own_d1_25) (by decide) (by decide)) ?_
      show own_End p e below P (s₁.setTop (mkF m 29 #[.val (.int p0)] [(.int (1 : Int32))]))
      refine own_retN X0 hx hlk hP (t := .boolean) (by simp) hrt (hb hby own_d1_29) (by decide) (by decide) ⟨congrArg (fun z => some (Value.int z)) ?_, N0, e0⟩
      exact (show own_f1 p0 = (1 : Int32) from (if_neg hc1).trans ((if_pos hc2).trans (rfl))).symm
    · refine own_st (fun _ => XS.icmpNo X0.here hx rfl (hb hby own_d1_9) rfl (feq hc2).1) ?_
      show own_End p e below P (s₁.setTop (mkF m 12 #[.val (.int p0)] []))
      refine own_st (fun _ => XS.iloadN X0.here hx rfl (hb hby own_d1_12) rfl) ?_
      show own_End p e below P (s₁.setTop (mkF m 13 #[.val (.int p0)] [(.int p0)]))
      refine own_st (fun _ => XS.bipush X0.here hx rfl (hb hby own_d1_13)) ?_
      show own_End p e below P (s₁.setTop (mkF m 15 #[.val (.int p0)] [(.int (10 : Int32)), (.int p0)]))
      by_cases hc3 : p0 = (10 : Int32)
      · refine own_st (fun _ => XS.icmpYes X0.here hx rfl (pc0 := 15) (pc' := 24) rfl (hb hby own_d1_15) rfl (teq hc3).1 (by decide) (by decide)) ?_
        show own_End p e below P (s₁.setTop (mkF m 24 #[.val (.int p0)] []))
        refine own_st (fun _ => XS.iconst X0.here hx rfl (hb hby own_d1_24)) ?_
        show own_End p e below P (s₁.setTop (mkF m 25 #[.val (.int p0)] [(.int (1 : Int32))]))
        refine own_st (fun _ => XS.goto X0.here hx rfl (pc0 := 25) (pc' := 29) rfl (hb hby own_d1_25) (by decide) (by decide)) ?_
        show own_End p e below P (s₁.setTop (mkF m 29 #[.val (.int p0)] [(.int (1 : Int32))]))
        refine own_retN X0 hx hlk hP (t := .boolean) (by simp) hrt (hb hby own_d1_29) (by decide) (by decide) ⟨congrArg (fun z => some (Value.int z)) ?_, N0, e0⟩
        exact (show own_f1 p0 = (1 : Int32) from (if_neg hc1).trans ((if_neg hc2).trans ((if_pos hc3).trans (rfl)))).symm
      · refine own_st (fun _ => XS.icmpNo X0.here hx rfl (hb hby own_d1_15) rfl (feq hc3).1) ?_
        show own_End p e below P (s₁.setTop (mkF m 18 #[.val (.int p0)] []))
        refine own_st (fun _ => XS.iloadN X0.here hx rfl (hb hby own_d1_18) rfl) ?_
        show own_End p e below P (s₁.setTop (mkF m 19 #[.val (.int p0)] [(.int p0)]))
        refine own_st (fun _ => XS.bipush X0.here hx rfl (hb hby own_d1_19)) ?_
        show own_End p e below P (s₁.setTop (mkF m 21 #[.val (.int p0)] [(.int (13 : Int32)), (.int p0)]))
        by_cases hc4 : p0 = (13 : Int32)
        · refine own_st (fun _ => XS.icmpNo X0.here hx rfl (hb hby own_d1_21) rfl (teq hc4).2) ?_
          show own_End p e below P (s₁.setTop (mkF m 24 #[.val (.int p0)] []))
          refine own_st (fun _ => XS.iconst X0.here hx rfl (hb hby own_d1_24)) ?_
          show own_End p e below P (s₁.setTop (mkF m 25 #[.val (.int p0)] [(.int (1 : Int32))]))
          refine own_st (fun _ => XS.goto X0.here hx rfl (pc0 := 25) (pc' := 29) rfl (hb hby own_d1_25) (by decide) (by decide)) ?_
          show own_End p e below P (s₁.setTop (mkF m 29 #[.val (.int p0)] [(.int (1 : Int32))]))
          refine own_retN X0 hx hlk hP (t := .boolean) (by simp) hrt (hb hby own_d1_29) (by decide) (by decide) ⟨congrArg (fun z => some (Value.int z)) ?_, N0, e0⟩
          exact (show own_f1 p0 = (1 : Int32) from (if_neg hc1).trans ((if_neg hc2).trans ((if_neg hc3).trans ((if_pos hc4).trans (rfl))))).symm
        · refine own_st (fun _ => XS.icmpYes X0.here hx rfl (pc0 := 21) (pc' := 28) rfl (hb hby own_d1_21) rfl (feq hc4).2 (by decide) (by decide)) ?_
          show own_End p e below P (s₁.setTop (mkF m 28 #[.val (.int p0)] []))
          refine own_st (fun _ => XS.iconst X0.here hx rfl (hb hby own_d1_28)) ?_
          show own_End p e below P (s₁.setTop (mkF m 29 #[.val (.int p0)] [(.int (0 : Int32))]))
          refine own_retN X0 hx hlk hP (t := .boolean) (by simp) hrt (hb hby own_d1_29) (by decide) (by decide) ⟨congrArg (fun z => some (Value.int z)) ?_, N0, e0⟩
          exact (show own_f1 p0 = (0 : Int32) from (if_neg hc1).trans ((if_neg hc2).trans ((if_neg hc3).trans ((if_neg hc4).trans (rfl))))).symm
theorem own_char (p : Int32) : ∃ n : Nat, n < 65536 ∧ (p.toUInt32.toUInt16.toUInt32.toInt32) = Int32.ofNat n := by
  refine ⟨p.toUInt32.toUInt16.toNat, UInt16.toNat_lt _, ?_⟩
  rw [← Int32.toBitVec_inj]
  apply BitVec.eq_of_toNat_eq
  simp
  show p.toBitVec.toNat % 65536 = p.toBitVec.toNat % 65536 % 4294967296
  omega
theorem own_low : ∀ n : Fin 64, own_f1 (Int32.ofNat n.val) = (if ((((4294977024 : Int64).toUInt64 >>> ((Int32.ofNat n.val) &&& 0x3f).toInt64.toUInt64).toInt64) &&& (1 : Int64)) = (0 : Int64) then (0 : Int32) else 1) := by decide +kernel
theorem own_high {n : Nat} (h1 : 64 ≤ n) (h2 : n < 65536) : own_f1 (Int32.ofNat n) = 0 := by
  have hn : (Int32.ofNat n).toInt = n := Int32.toInt_ofNat_small (by omega)
  have hne : ∀ k : Int32, k.toInt < 64 → ¬ (Int32.ofNat n = k) := fun k hk e => by rw [e] at hn; omega
  have a1 := hne 32 (by decide); have a2 := hne 9 (by decide); have a3 := hne 10 (by decide); have a4 := hne 13 (by decide)
  show (if _ then _ else _) = _
  rw [if_neg a1, if_neg a2, if_neg a3, if_neg a4]
theorem own_plain {p v : Int32} (e : v = if (p.toUInt32.toUInt16.toUInt32.toInt32) < (64 : Int32) then (if ((((4294977024 : Int64).toUInt64 >>> ((p.toUInt32.toUInt16.toUInt32.toInt32) &&& 0x3f).toInt64.toUInt64).toInt64) &&& (1 : Int64)) = (0 : Int64) then (0 : Int32) else (1 : Int32)) else (0 : Int32)) :
    own_f1 (p.toUInt32.toUInt16.toUInt32.toInt32) = v := by
  subst e
  obtain ⟨n, hn, en⟩ := own_char p
  rw [en]
  by_cases h : n < 64
  · rw [if_pos (by rw [Int32.lt_iff_toInt_lt, Int32.toInt_ofNat_small (by omega)]; show (n : Int) < 64; omega)]
    exact own_low ⟨n, h⟩
  · rw [if_neg (by rw [Int32.lt_iff_toInt_lt, Int32.toInt_ofNat_small (by omega)]; show ¬ (n : Int) < 64; omega)]
    exact own_high (by omega) hn
theorem own_pd_C_Z_238 : parseMethodDescriptor "(C)Z" = some ⟨[.char], some .boolean⟩ := by decide +kernel
theorem own_ef0 (m : MethodId) (p0 : Int32) : entryFrame m #[(.int p0)] maxLocals = mkF m 0 #[.val (.int p0), .unset, .unset, .unset, .unset] [] := by first | (simp [entryFrame, mkF, argsToLocals, Value.category, maxLocals]; done) | rfl
theorem own_pn_com_example_tallywire_tallywire_engine_ValueTypeIsXmlWhitespacePinLaw : plainName "com/example/tallywire/tallywire/engine/ValueTypeIsXmlWhitespacePinLaw" = true := by first | (simp [plainName, overriddenIn]; done) | decide +kernel
set_option maxRecDepth 65536 in
set_option maxHeartbeats 40000000 in
theorem own_m0 (l : Launch) (Z : State) (a0 : Array Value) (hw : ∀ d ∈ tables_1, d.before a0 Z = true) (ws : List Jvm.Cond) (p0 : Int32)  (h0 : Heap) (n0 : Nat) (Z0 : n0 ≤ h0.size)  :
    own_Met l Z x code maxLocals ret ws room_1 #[(.int p0)] h0 (fun (v : Option Value) (h : Heap) (L : List Loc) => v = some (.int 1) ∧ Fr n0 L) := by
  refine own_enter (plainFor_of_name own_pn_com_example_tallywire_tallywire_engine_ValueTypeIsXmlWhitespacePinLaw) ?_
  intro p e s m below meth c s₁ P hx hby hml hrt hlk hown hnm hZ X0 e0 hP
  have N0 := Fr.nil n0
  have K0 := Keep.refl h0 []
  have hml' : c.maxLocals = 5 := hml
  refine own_cast (own_ef0 m p0) ?_
  show own_End p e below P (s₁.setTop (mkF m 0 #[.val (.int p0), .unset, .unset, .unset, .unset] []))
  refine own_st (fun _ => XS.iloadN X0.here hx rfl (hb hby at_0) rfl) ?_
  show own_End p e below P (s₁.setTop (mkF m 1 #[.val (.int p0), .unset, .unset, .unset, .unset] [(.int p0)]))
  refine own_st (fun _ => XS.i2c X0.here hx rfl (hb hby at_1) rfl) ?_
  show own_End p e below P (s₁.setTop (mkF m 2 #[.val (.int p0), .unset, .unset, .unset, .unset] [(.int (p0.toUInt32.toUInt16.toUInt32.toInt32))]))
  refine own_st (fun _ => XS.istoreN X0.here hx rfl (hb hby at_2) rfl (l' := #[.val (.int p0), .val (.int (p0.toUInt32.toUInt16.toUInt32.toInt32)), .unset, .unset, .unset]) rfl) ?_
  show own_End p e below P (s₁.setTop (mkF m 3 #[.val (.int p0), .val (.int (p0.toUInt32.toUInt16.toUInt32.toInt32)), .unset, .unset, .unset] []))
  refine own_st (fun _ => X0.ldc2Long hx hown (mvT hZ (hw _ (List.mem_of_getElem? (i := 0) rfl))) (g := (mkF m 3 #[.val (.int p0), .val (.int (p0.toUInt32.toUInt16.toUInt32.toInt32)), .unset, .unset, .unset] [])) rfl (hb hby at_3) _) ?_
  show own_End p e below P (s₁.setTop (mkF m 6 #[.val (.int p0), .val (.int (p0.toUInt32.toUInt16.toUInt32.toInt32)), .unset, .unset, .unset] [(.long (4294977024 : Int64))]))
  refine own_st (fun _ => XS.lstoreN X0.here hx rfl (hb hby at_6) rfl (l' := #[.val (.int p0), .val (.int (p0.toUInt32.toUInt16.toUInt32.toInt32)), .val (.long (4294977024 : Int64)), .second, .unset]) rfl) ?_
  show own_End p e below P (s₁.setTop (mkF m 7 #[.val (.int p0), .val (.int (p0.toUInt32.toUInt16.toUInt32.toInt32)), .val (.long (4294977024 : Int64)), .second, .unset] []))
  refine own_st (fun _ => XS.iloadN X0.here hx rfl (hb hby at_7) rfl) ?_
  show own_End p e below P (s₁.setTop (mkF m 8 #[.val (.int p0), .val (.int (p0.toUInt32.toUInt16.toUInt32.toInt32)), .val (.long (4294977024 : Int64)), .second, .unset] [(.int (p0.toUInt32.toUInt16.toUInt32.toInt32))]))
  refine own_st (fun _ => XS.bipush X0.here hx rfl (hb hby at_8)) ?_
  show own_End p e below P (s₁.setTop (mkF m 10 #[.val (.int p0), .val (.int (p0.toUInt32.toUInt16.toUInt32.toInt32)), .val (.long (4294977024 : Int64)), .second, .unset] [(.int (64 : Int32)), (.int (p0.toUInt32.toUInt16.toUInt32.toInt32))]))
  have J4 : ∀ v3 : Int32, v3 = (if (p0.toUInt32.toUInt16.toUInt32.toInt32) < (64 : Int32) then (if ((((4294977024 : Int64).toUInt64 >>> ((p0.toUInt32.toUInt16.toUInt32.toInt32) &&& 0x3f).toInt64.toUInt64).toInt64) &&& (1 : Int64)) = (0 : Int64) then (0 : Int32) else (1 : Int32)) else (0 : Int32)) → own_End p e below P (s₁.setTop (mkF m 28 #[.val (.int p0), .val (.int (p0.toUInt32.toUInt16.toUInt32.toInt32)), .val (.long (4294977024 : Int64)), .second, .unset] [(.int v3)])) := by
    intro v3 e_v3
    refine own_st (fun _ => XS.istore X0.here hx rfl (hb hby at_28) rfl (l' := #[.val (.int p0), .val (.int (p0.toUInt32.toUInt16.toUInt32.toInt32)), .val (.long (4294977024 : Int64)), .second, .val (.int v3)]) rfl) ?_
    show own_End p e below P (s₁.setTop (mkF m 30 #[.val (.int p0), .val (.int (p0.toUInt32.toUInt16.toUInt32.toInt32)), .val (.long (4294977024 : Int64)), .second, .val (.int v3)] []))
    refine own_st (fun _ => XS.iloadN X0.here hx rfl (hb hby at_30) rfl) ?_
    show own_End p e below P (s₁.setTop (mkF m 31 #[.val (.int p0), .val (.int (p0.toUInt32.toUInt16.toUInt32.toInt32)), .val (.long (4294977024 : Int64)), .second, .val (.int v3)] [(.int (p0.toUInt32.toUInt16.toUInt32.toInt32))]))
    refine own_callS X0 hx hZ (y := (⟨"com/example/tallywire/tallywire/engine/ValueType", "isXmlWhitespace", "(C)Z"⟩ : MethodName)) hown (hw _ (List.mem_of_getElem? (i := 1) rfl)) (hw _ (List.mem_of_getElem? (i := 2) rfl)) (hw _ (List.mem_of_getElem? (i := 3) rfl)) (hw _ (List.mem_of_getElem? (i := 4) rfl)) (by decide) (own_m1 l Z a0 hw [] (p0.toUInt32.toUInt16.toUInt32.toInt32)  h0 n0 Z0 ) 0 (by decide) (by decide) e0 (by decide) (by decide) (g := (mkF m 31 #[.val (.int p0), .val (.int (p0.toUInt32.toUInt16.toUInt32.toInt32)), .val (.long (4294977024 : Int64)), .second, .val (.int v3)] [(.int (p0.toUInt32.toUInt16.toUInt32.toInt32))])) rfl (by rw [hml']; rfl) (argsL := [(.int (p0.toUInt32.toUInt16.toUInt32.toInt32))]) (rest := []) rfl (lenOf own_pd_C_Z_238 rfl) rfl (by show 2 * 0 + _ ≤ _; exact Nat.le_of_eq rfl) (hb hby at_31) (fun r5 T5 L5 X5 hQ5 => ?_)
    obtain ⟨rfl, Nq5, eq5⟩ := hQ5
    have N5 := Fr.app N0 Nq5
    show own_End p e below P (T5.setTop (mkF m 34 #[.val (.int p0), .val (.int (p0.toUInt32.toUInt16.toUInt32.toInt32)), .val (.long (4294977024 : Int64)), .second, .val (.int v3)] [(.int (own_f1 (p0.toUInt32.toUInt16.toUInt32.toInt32)))]))
    refine own_st (fun _ => XS.iload X5.here hx rfl (hb hby at_34) rfl) ?_
    show own_End p e below P (T5.setTop (mkF m 36 #[.val (.int p0), .val (.int (p0.toUInt32.toUInt16.toUInt32.toInt32)), .val (.long (4294977024 : Int64)), .second, .val (.int v3)] [(.int v3), (.int (own_f1 (p0.toUInt32.toUInt16.toUInt32.toInt32)))]))
    have hc6 : (own_f1 (p0.toUInt32.toUInt16.toUInt32.toInt32)) = v3 := by exact own_plain e_v3
    refine own_st (fun _ => XS.icmpNo X5.here hx rfl (hb hby at_36) rfl (teq hc6).2) ?_
    show own_End p e below P (T5.setTop (mkF m 39 #[.val (.int p0), .val (.int (p0.toUInt32.toUInt16.toUInt32.toInt32)), .val (.long (4294977024 : Int64)), .second, .val (.int v3)] []))
    refine own_st (fun _ => XS.iconst X5.here hx rfl (hb hby at_39)) ?_
    show own_End p e below P (T5.setTop (mkF m 40 #[.val (.int p0), .val (.int (p0.toUInt32.toUInt16.toUInt32.toInt32)), .val (.long (4294977024 : Int64)), .second, .val (.int v3)] [(.int (1 : Int32))]))
    refine own_st (fun _ => XS.goto X5.here hx rfl (pc0 := 40) (pc' := 44) rfl (hb hby at_40) (by decide) (by decide)) ?_
    show own_End p e below P (T5.setTop (mkF m 44 #[.val (.int p0), .val (.int (p0.toUInt32.toUInt16.toUInt32.toInt32)), .val (.long (4294977024 : Int64)), .second, .val (.int v3)] [(.int (1 : Int32))]))
    exact own_retN X5 hx hlk hP (t := .boolean) (by simp) hrt (hb hby at_44) (by decide) (by decide) ⟨rfl, N5⟩
  by_cases hc1 : (p0.toUInt32.toUInt16.toUInt32.toInt32) < (64 : Int32)
  · refine own_st (fun _ => XS.icmpNo X0.here hx rfl (hb hby at_10) rfl (tlt hc1).2.1) ?_
    show own_End p e below P (s₁.setTop (mkF m 13 #[.val (.int p0), .val (.int (p0.toUInt32.toUInt16.toUInt32.toInt32)), .val (.long (4294977024 : Int64)), .second, .unset] []))
    refine own_st (fun _ => XS.lloadN X0.here hx rfl (hb hby at_13) rfl) ?_
    show own_End p e below P (s₁.setTop (mkF m 14 #[.val (.int p0), .val (.int (p0.toUInt32.toUInt16.toUInt32.toInt32)), .val (.long (4294977024 : Int64)), .second, .unset] [(.long (4294977024 : Int64))]))
    refine own_st (fun _ => XS.iloadN X0.here hx rfl (hb hby at_14) rfl) ?_
    show own_End p e below P (s₁.setTop (mkF m 15 #[.val (.int p0), .val (.int (p0.toUInt32.toUInt16.toUInt32.toInt32)), .val (.long (4294977024 : Int64)), .second, .unset] [(.int (p0.toUInt32.toUInt16.toUInt32.toInt32)), (.long (4294977024 : Int64))]))
    refine own_st (fun _ => XS.lushr X0.here hx rfl (hb hby at_15) rfl) ?_
    show own_End p e below P (s₁.setTop (mkF m 16 #[.val (.int p0), .val (.int (p0.toUInt32.toUInt16.toUInt32.toInt32)), .val (.long (4294977024 : Int64)), .second, .unset] [(.long (((4294977024 : Int64).toUInt64 >>> ((p0.toUInt32.toUInt16.toUInt32.toInt32) &&& 0x3f).toInt64.toUInt64).toInt64))]))
    refine own_st (fun _ => XS.lconst X0.here hx rfl (hb hby at_16)) ?_
    show own_End p e below P (s₁.setTop (mkF m 17 #[.val (.int p0), .val (.int (p0.toUInt32.toUInt16.toUInt32.toInt32)), .val (.long (4294977024 : Int64)), .second, .unset] [(.long (1 : Int64)), (.long (((4294977024 : Int64).toUInt64 >>> ((p0.toUInt32.toUInt16.toUInt32.toInt32) &&& 0x3f).toInt64.toUInt64).toInt64))]))
    refine own_st (fun _ => XS.land X0.here hx rfl (hb hby at_17) rfl) ?_
    show own_End p e below P (s₁.setTop (mkF m 18 #[.val (.int p0), .val (.int (p0.toUInt32.toUInt16.toUInt32.toInt32)), .val (.long (4294977024 : Int64)), .second, .unset] [(.long ((((4294977024 : Int64).toUInt64 >>> ((p0.toUInt32.toUInt16.toUInt32.toInt32) &&& 0x3f).toInt64.toUInt64).toInt64) &&& (1 : Int64)))]))
    refine own_st (fun _ => XS.lconst X0.here hx rfl (hb hby at_18)) ?_
    show own_End p e below P (s₁.setTop (mkF m 19 #[.val (.int p0), .val (.int (p0.toUInt32.toUInt16.toUInt32.toInt32)), .val (.long (4294977024 : Int64)), .second, .unset] [(.long (0 : Int64)), (.long ((((4294977024 : Int64).toUInt64 >>> ((p0.toUInt32.toUInt16.toUInt32.toInt32) &&& 0x3f).toInt64.toUInt64).toInt64) &&& (1 : Int64)))]))
    refine own_st (fun _ => XS.lcmp X0.here hx rfl (hb hby at_19) rfl) ?_
    show own_End p e below P (s₁.setTop (mkF m 20 #[.val (.int p0), .val (.int (p0.toUInt32.toUInt16.toUInt32.toInt32)), .val (.long (4294977024 : Int64)), .second, .unset] [(.int (lcmpW ((((4294977024 : Int64).toUInt64 >>> ((p0.toUInt32.toUInt16.toUInt32.toInt32) &&& 0x3f).toInt64.toUInt64).toInt64) &&& (1 : Int64)) (0 : Int64)))]))
    by_cases hc7 : ((((4294977024 : Int64).toUInt64 >>> ((p0.toUInt32.toUInt16.toUInt32.toInt32) &&& 0x3f).toInt64.toUInt64).toInt64) &&& (1 : Int64)) = (0 : Int64)
    · refine own_st (fun _ => XS.ifYes X0.here hx rfl (pc0 := 20) (pc' := 27) rfl (hb hby at_20) rfl ((if0 _ _).trans (teq (own_eq.mpr hc7)).1) (by decide) (by decide)) ?_
      show own_End p e below P (s₁.setTop (mkF m 27 #[.val (.int p0), .val (.int (p0.toUInt32.toUInt16.toUInt32.toInt32)), .val (.long (4294977024 : Int64)), .second, .unset] []))
      refine own_st (fun _ => XS.iconst X0.here hx rfl (hb hby at_27)) ?_
      show own_End p e below P (s₁.setTop (mkF m 28 #[.val (.int p0), .val (.int (p0.toUInt32.toUInt16.toUInt32.toInt32)), .val (.long (4294977024 : Int64)), .second, .unset] [(.int (0 : Int32))]))
      exact J4 _ ((if_pos hc1).trans ((if_pos hc7).trans (rfl))).symm
    · refine own_st (fun _ => XS.ifNo X0.here hx rfl (hb hby at_20) rfl ((if0 _ _).trans (feq (mt own_eq.mp hc7)).1)) ?_
      show own_End p e below P (s₁.setTop (mkF m 23 #[.val (.int p0), .val (.int (p0.toUInt32.toUInt16.toUInt32.toInt32)), .val (.long (4294977024 : Int64)), .second, .unset] []))
      refine own_st (fun _ => XS.iconst X0.here hx rfl (hb hby at_23)) ?_
      show own_End p e below P (s₁.setTop (mkF m 24 #[.val (.int p0), .val (.int (p0.toUInt32.toUInt16.toUInt32.toInt32)), .val (.long (4294977024 : Int64)), .second, .unset] [(.int (1 : Int32))]))
      refine own_st (fun _ => XS.goto X0.here hx rfl (pc0 := 24) (pc' := 28) rfl (hb hby at_24) (by decide) (by decide)) ?_
      show own_End p e below P (s₁.setTop (mkF m 28 #[.val (.int p0), .val (.int (p0.toUInt32.toUInt16.toUInt32.toInt32)), .val (.long (4294977024 : Int64)), .second, .unset] [(.int (1 : Int32))]))
      exact J4 _ ((if_pos hc1).trans ((if_neg hc7).trans (rfl))).symm
  · refine own_st (fun _ => XS.icmpYes X0.here hx rfl (pc0 := 10) (pc' := 27) rfl (hb hby at_10) rfl (flt hc1).2.1 (by decide) (by decide)) ?_
    show own_End p e below P (s₁.setTop (mkF m 27 #[.val (.int p0), .val (.int (p0.toUInt32.toUInt16.toUInt32.toInt32)), .val (.long (4294977024 : Int64)), .second, .unset] []))
    refine own_st (fun _ => XS.iconst X0.here hx rfl (hb hby at_27)) ?_
    show own_End p e below P (s₁.setTop (mkF m 28 #[.val (.int p0), .val (.int (p0.toUInt32.toUInt16.toUInt32.toInt32)), .val (.long (4294977024 : Int64)), .second, .unset] [(.int (0 : Int32))]))
    exact J4 _ ((if_neg hc1).trans (rfl)).symm
set_option maxRecDepth 65536 in
set_option maxHeartbeats 40000000 in
theorem comes_1 {Post : Tables → Env → Array Value → State → Outcome → State → Prop} (hpost : ∀ tb e args s v u, (limb_1_1.after args s (.returned v) u = true ∧ limb_1_2.after args s (.returned v) u = true ∧ True) → FrameEnd s (.returned v) u (Jvm.fieldLocs frame_1_writes args s ++ Jvm.arrayLocs frame_1_arrays args s ++ Jvm.staticLocs frame_1_statics s) 0 0 → Post tb e args s (.returned v) u) :
    ArmFor flags0 classFile x code maxLocals ret World_1 tables_1 room_1 Calls_1 rest_1 Pre_1 Post := by
  intro l hfl _ _ p e ha hc hk s m args below hf hA hF happ hP
  obtain ⟨hcalls, hrest, hpre⟩ := hP
  obtain ⟨-, -, -, hnamed, -, -, -, hat⟩ := (Spec.applies_iff hf).mp happ
  obtain ⟨hg, hn⟩ := and_e (Cond.before_iff.mp (show (Jvm.Cond.and given_1 narrow_1).before args s = true from hpre))
  obtain ⟨k1, l1⟩ := and_e hg
  obtain ⟨w0, rfl⟩ : ∃ w0 : Value, args = #[w0] := by
    have hs : args.size = 1 := by simpa [Cond.value, given_1] using k1
    obtain ⟨L⟩ := args
    match L, hs with
    | [w0], _ => exact ⟨w0, rfl⟩
  have hw := fun d (hd : d ∈ tables_1) => atoms_spec (ws := Jvm.Cond.code x code maxLocals ret :: tables_1) hat d (List.mem_cons_of_mem _ hd)
  have hfit : Fit s := fun {y c} hc i hi => by
    obtain ⟨ha, rfl⟩ := Array.getElem?_eq_some_iff.mp hc
    have q := List.all_eq_true.mp ((Array.all_eq_true_iff_forall_mem.mp hF) _ (Array.getElem_mem ha)) i (List.mem_range.mpr hi)
    simpa [Array.getElem?_eq_getElem hi] using q
  obtain ⟨i0, ei0⟩ := is_v l1
  obtain rfl : w0 = (.int i0) := Option.some.inj ei0
  obtain ⟨n, o, h1, h2, h3, _, L, rfl, ⟨rfl, N⟩, hq⟩ := own_m0 l s _ hw tables_1 i0  s.heap s.heap.size (Nat.le_refl _)  p e ha hc hk s m _ below hf ((Spec.applies_iff_loose hf).mp happ).1 ⟨rfl, State.Warmed39.refl s, rfl⟩ trivial
  refine ⟨n, _, h1, h2, h3, hpost _ _ _ _ _ _ ⟨Cond.after_iff.mpr rfl, Cond.after_iff.mpr (eq_i res_at (Term.int_eval (1)) rfl), trivial⟩ ⟨hq.1, hq.2.1, (hq.2.2.sift fun y hy => Or.inr (N y hy)).mono (by decide) (by decide)⟩⟩
theorem main_1_1 : Claimed_1_1 := comes_1 fun _ _ _ _ _ _ h hF => ⟨h.1, hF⟩
theorem main_1_2 : Claimed_1_2 := comes_1 fun _ _ _ _ _ _ h hF => ⟨h.2.1, hF⟩
end Jvm.Pilot.@@N@@
namespace Jvm.Pilot.@@N@@
open Jvm Jvm.ClassFile Sem Op Lib Jvm.Free Jvm.Stand Jvm.Pilot.@@N@@.Jvm.D
/-! MADE BY PROGRAM (witnessworld.py) out of the Statement's table words and the real class files: 9 classes; the members and pool entries that the words name. The judged class is class 1, her method 1. -/
namespace start1
open Jvm.ClassFile
def u (s : String) : CpInfo := .utf8 (stringToUtf16 s)
/-- a pool by its gaps: so many unusable entries, then the entry; so many at the end -/
def gap : Nat → List CpInfo → List CpInfo
  | 0, r => r
  | n + 1, r => .unusable :: gap n r
def poolList (es : List (Nat × CpInfo)) (last : Nat) : List CpInfo := es.foldr (fun e r => gap e.1 (e.2 :: r)) (gap last [])
def pool (es : List (Nat × CpInfo)) (last : Nat) : Array CpInfo := ⟨poolList es last⟩
def fileOf (pool : Array CpInfo) (this : Nat) (attrs : Array Attribute := #[]) (ms : Array MethodInfo := #[]) (fl : Nat := 33) (sup : Nat := 0) (ifs : Array Nat := #[]) (fds : Array FieldInfo := #[]) : ClassFile where
  minorVersion := 0
  majorVersion := 65
  constantPool := pool
  accessFlags := fl
  thisClass := this
  superClass := sup
  interfaces := ifs
  fields := fds
  methods := ms
  attributes := attrs
def plain (name : String) (sup : Option ClassId) : Class where
  name := name
  kind := .ordinary
  loader := none
  accessFlags := 33
  super := sup
  interfaces := #[]
  cf := none
  fields := #[]
  methods := #[]
  instanceTypes := #[]
  staticTypes := #[]
  resolved := #[]
  callSites := []
  init := .initialized
  statics := none
  mirror := none

def pool0 : Array CpInfo := pool [(5, u "<init>"), (0, u "()V"), (1, .class_ 10), (1, u "java/lang/Object")] 113

def k0m0 : Method := { name := "<init>", desc := "()V", sig := { parameters := [], returnType := none }, accessFlags := 1, code := none }
/-- java/lang/Object -/
def k0 : Class := { plain "java/lang/Object" none with
  accessFlags := 33
  interfaces := #[]
  cf := some (fileOf pool0 8 #[] #[{ accessFlags := 1, nameIndex := 5, descriptorIndex := 6, attributes := #[] }] 33 0 #[] #[])
  fields := #[]
  methods := #[k0m0]
  instanceTypes := #[]
  staticTypes := #[]
  resolved := Array.replicate 124 none
  statics := none }

def pool1 : Array CpInfo := pool [(2, .class_ 4), (1, u "java/lang/Object"), (0, u "<init>"), (0, u "()V"), (0, .long 4294977024), (1, .methodref 10 11), (0, .class_ 12), (0, .nameAndType 13 14), (0, u "com/example/tallywire/tallywire/engine/ValueType"), (0, u "isXmlWhitespace"), (0, u "(C)Z"), (0, .class_ 16), (0, u "com/example/tallywire/tallywire/engine/ValueTypeIsXmlWhitespacePinLaw"), (2, u "law"), (0, u "(I)Z")] 3

def k1m0 : Method := { name := "<init>", desc := "()V", sig := { parameters := [], returnType := none }, accessFlags := 2, code := none }
def k1c1 : Code := { maxStack := 4, maxLocals := 5, code := code, exceptionTable := #[], attributes := #[] }
def k1m1 : Method := { name := "law", desc := "(I)Z", sig := { parameters := [.int], returnType := some .boolean }, accessFlags := 9, code := some k1c1 }
/-- com/example/tallywire/tallywire/engine/ValueTypeIsXmlWhitespacePinLaw -/
def k1 : Class := { plain "com/example/tallywire/tallywire/engine/ValueTypeIsXmlWhitespacePinLaw" (some 0) with
  accessFlags := 49
  interfaces := #[]
  cf := some (fileOf pool1 15 #[] #[{ accessFlags := 2, nameIndex := 5, descriptorIndex := 6, attributes := #[] }, { accessFlags := 9, nameIndex := 19, descriptorIndex := 20, attributes := #[] }] 49 2 #[] #[])
  fields := #[]
  methods := #[k1m0, k1m1]
  instanceTypes := #[]
  staticTypes := #[]
  resolved := Array.replicate 24 none
  statics := none }

def pool2 : Array CpInfo := pool [(4, .class_ 6), (1, u "java/lang/Object"), (3, u "info"), (9, .class_ 22), (1, u "com/example/tallywire/tallywire/engine/ValueType"), (0, u "Lcom/example/tallywire/tallywire/engine/SchemaType;"), (2, u "primitive"), (0, u "Lcom/example/tallywire/tallywire/engine/ValueType$Primitive;"), (2, u "minLength"), (0, u "I"), (2, u "maxLength"), (2, u "exactLength"), (9, u "[[Lcom/example/tallywire/tallywire/engine/ValueType$PatternFacet;"), (2, u "patterns"), (0, .class_ 52), (0, u "com/example/tallywire/tallywire/engine/ValueType$Enumeration"), (1, u "[Lcom/example/tallywire/tallywire/engine/ValueType$Enumeration;"), (2, u "enumerations"), (2, u "totalDigits"), (2, u "fractionDigits"), (19, .class_ 84), (0, u "com/example/tallywire/tallywire/engine/ValueType$Bound"), (1, u "[Lcom/example/tallywire/tallywire/engine/ValueType$Bound;"), (2, u "bounds"), (15, u "boundsApart"), (0, u "Z"), (2, u "PRIMITIVES"), (0, u "Ljava/util/Map;"), (6, .class_ 118), (0, u "com/example/tallywire/tallywire/engine/ValueType$Primitive"), (134, .class_ 254), (0, u "com/example/tallywire/tallywire/engine/ValueType$PatternFacet"), (61, u "Ljava/lang/String;"), (12, .class_ 330), (0, u "com/example/tallywire/tallywire/engine/ValueType$LengthFacet"), (59, .class_ 392), (1, u "com/example/tallywire/tallywire/engine/ValueType$DateTimes"), (35, u "(C)Z"), (2, u "isXmlWhitespace"), (23, u "BOUNDS"), (0, u "Ljava/util/List;"), (11, u "NONE"), (1, u "FRACTION_DIGITS"), (0, u "TOTAL_DIGITS")] 66

def k2c0 : Code := { maxStack := 2, maxLocals := 1, code := prog_99_method_15_code, exceptionTable := #[], attributes := #[] }
def k2m0 : Method := { name := "isXmlWhitespace", desc := "(C)Z", sig := { parameters := [.char], returnType := some .boolean }, accessFlags := 8, code := some k2c0 }
/-- com/example/tallywire/tallywire/engine/ValueType -/
def k2 : Class := { plain "com/example/tallywire/tallywire/engine/ValueType" (some 0) with
  accessFlags := 48
  interfaces := #[]
  cf := some (fileOf pool2 20 #[.nestMembers #[390, 83, 253, 51, 329, 117]] #[{ accessFlags := 8, nameIndex := 431, descriptorIndex := 428, attributes := #[] }] 48 4 #[] #[{ accessFlags := 26, nameIndex := 468, descriptorIndex := 31, attributes := #[] }, { accessFlags := 26, nameIndex := 470, descriptorIndex := 316, attributes := #[] }, { accessFlags := 26, nameIndex := 471, descriptorIndex := 316, attributes := #[] }, { accessFlags := 26, nameIndex := 455, descriptorIndex := 456, attributes := #[] }, { accessFlags := 26, nameIndex := 109, descriptorIndex := 110, attributes := #[] }, { accessFlags := 18, nameIndex := 10, descriptorIndex := 23, attributes := #[] }, { accessFlags := 18, nameIndex := 26, descriptorIndex := 27, attributes := #[] }, { accessFlags := 18, nameIndex := 30, descriptorIndex := 31, attributes := #[] }, { accessFlags := 18, nameIndex := 34, descriptorIndex := 31, attributes := #[] }, { accessFlags := 18, nameIndex := 37, descriptorIndex := 31, attributes := #[] }, { accessFlags := 18, nameIndex := 50, descriptorIndex := 47, attributes := #[] }, { accessFlags := 18, nameIndex := 57, descriptorIndex := 54, attributes := #[] }, { accessFlags := 18, nameIndex := 60, descriptorIndex := 31, attributes := #[] }, { accessFlags := 18, nameIndex := 63, descriptorIndex := 31, attributes := #[] }, { accessFlags := 18, nameIndex := 89, descriptorIndex := 86, attributes := #[] }, { accessFlags := 18, nameIndex := 105, descriptorIndex := 106, attributes := #[] }])
  fields := #[{ name := "NONE", type := .int, accessFlags := 26, slot := 0, constantValue := 0 }, { name := "FRACTION_DIGITS", type := (.object "java/lang/String"), accessFlags := 26, slot := 1, constantValue := 0 }, { name := "TOTAL_DIGITS", type := (.object "java/lang/String"), accessFlags := 26, slot := 2, constantValue := 0 }, { name := "BOUNDS", type := (.object "java/util/List"), accessFlags := 26, slot := 3, constantValue := 0 }, { name := "PRIMITIVES", type := (.object "java/util/Map"), accessFlags := 26, slot := 4, constantValue := 0 }, { name := "info", type := (.object "com/example/tallywire/tallywire/engine/SchemaType"), accessFlags := 18, slot := 0, constantValue := 0 }, { name := "primitive", type := (.object "com/example/tallywire/tallywire/engine/ValueType$Primitive"), accessFlags := 18, slot := 1, constantValue := 0 }, { name := "minLength", type := .int, accessFlags := 18, slot := 2, constantValue := 0 }, { name := "maxLength", type := .int, accessFlags := 18, slot := 3, constantValue := 0 }, { name := "exactLength", type := .int, accessFlags := 18, slot := 4, constantValue := 0 }, { name := "patterns", type := (.array (.array (.object "com/example/tallywire/tallywire/engine/ValueType$PatternFacet"))), accessFlags := 18, slot := 5, constantValue := 0 }, { name := "enumerations", type := (.array (.object "com/example/tallywire/tallywire/engine/ValueType$Enumeration")), accessFlags := 18, slot := 6, constantValue := 0 }, { name := "totalDigits", type := .int, accessFlags := 18, slot := 7, constantValue := 0 }, { name := "fractionDigits", type := .int, accessFlags := 18, slot := 8, constantValue := 0 }, { name := "bounds", type := (.array (.object "com/example/tallywire/tallywire/engine/ValueType$Bound")), accessFlags := 18, slot := 9, constantValue := 0 }, { name := "boundsApart", type := .boolean, accessFlags := 18, slot := 10, constantValue := 0 }]
  methods := #[k2m0]
  instanceTypes := #[(.object "com/example/tallywire/tallywire/engine/SchemaType"), (.object "com/example/tallywire/tallywire/engine/ValueType$Primitive"), .int, .int, .int, (.array (.array (.object "com/example/tallywire/tallywire/engine/ValueType$PatternFacet"))), (.array (.object "com/example/tallywire/tallywire/engine/ValueType$Enumeration")), .int, .int, (.array (.object "com/example/tallywire/tallywire/engine/ValueType$Bound")), .boolean]
  staticTypes := #[.int, (.object "java/lang/String"), (.object "java/lang/String"), (.object "java/util/List"), (.object "java/util/Map")]
  resolved := Array.replicate 538 none
  statics := none }

def pool3 : Array CpInfo := pool [(1, u "java/lang/Cloneable"), (0, .class_ 1), (0, u "java/lang/Object"), (0, .class_ 3)] 3

/-- java/lang/Cloneable -/
def k3 : Class := { plain "java/lang/Cloneable" (some 0) with
  accessFlags := 1537
  interfaces := #[]
  cf := some (fileOf pool3 2 #[] #[] 1537 4 #[] #[])
  fields := #[]
  methods := #[]
  instanceTypes := #[]
  staticTypes := #[]
  resolved := Array.replicate 8 none
  statics := none }

def pool4 : Array CpInfo := pool [(1, u "java/io/Serializable"), (0, .class_ 1), (0, u "java/lang/Object"), (0, .class_ 3)] 3

/-- java/io/Serializable -/
def k4 : Class := { plain "java/io/Serializable" (some 0) with
  accessFlags := 1537
  interfaces := #[]
  cf := some (fileOf pool4 2 #[] #[] 1537 4 #[] #[])
  fields := #[]
  methods := #[]
  instanceTypes := #[]
  staticTypes := #[]
  resolved := Array.replicate 8 none
  statics := none }

/-- the primitive byte -/
def k5 : Class := { plain "byte" none with kind := .primitive 'B', accessFlags := 0x411 }
/-- [B -/
def k6 : Class := { plain "[B" (some 0) with kind := .array 5 .byte, interfaces := #[3, 4], accessFlags := 1041 }

/-- the primitive int -/
def k7 : Class := { plain "int" none with kind := .primitive 'I', accessFlags := 0x411 }
/-- [I -/
def k8 : Class := { plain "[I" (some 0) with kind := .array 7 .int, interfaces := #[3, 4], accessFlags := 1041 }

def heap : Heap := #[]
def classes : Array Class := #[k0, k1, k2, k3, k4, k5, k6, k7, k8]
def interned : List (Array UInt16 × Addr) := []
def slotsUsed : Nat := 0
def theMethod : MethodId := ⟨1, 1⟩
def args0 : Array Value := #[.int 5]
def aboutOver (below : List Frame) : State where
  vm := { classes := classes, interned := interned.toArray }
  heap := heap
  slotsUsed := slotsUsed
  threads := #[{ frames := .invoking theMethod args0 :: below }]
def below0 : List Frame := [.native { method := ⟨0, 0⟩, args := #[] }]
def about1 : State := aboutOver below0
def p0 : Program := .bare "" "" ""
def e0 : Env := launch0.env 0 0 0
theorem w_frames : about1.frames = Frame.invoking theMethod args0 :: below0 := rfl
set_option maxRecDepth 65536 in
theorem w_args : argsFit about1.vm theMethod args0 = true := by decide +kernel
set_option maxRecDepth 65536 in
theorem w_heap : heapFits about1 = true := by decide +kernel
set_option maxRecDepth 65536 in
theorem w_runnable : about1.curStatus? = some .runnable := by decide +kernel
set_option maxRecDepth 65536 in
theorem w_alone : about1.alone = true := by decide +kernel
set_option maxRecDepth 65536 in
theorem w_named : about1.methodNamed? x = some theMethod := by decide +kernel
set_option maxRecDepth 65536 in
theorem w_hears : about1.hears theMethod below0 = true := by decide +kernel
set_option maxRecDepth 65536 in
theorem w_ripe : about1.ripe theMethod args0 below0 = true := by decide +kernel
theorem w_running : about1.status = .running := rfl
set_option maxRecDepth 65536 in
theorem w_room : about1.hasRoom e0.platform room_1 = true :=
  launch0.hasRoom_least _ room_1 (by decide +kernel) (by decide +kernel) (by decide +kernel) (by decide +kernel) (by decide +kernel) (by decide +kernel)
theorem allAtoms_all (ts : List Jvm.Cond) (a : Array Jvm.Value) (st : Jvm.State) : (allAtoms ts).before a st = ts.all (fun c => c.before a st) := by
  induction ts with
  | nil => rfl
  | cons c t ih =>
    show (Jvm.Cond.and c (allAtoms t)).before a st = _
    rw [Jvm.Cond.before_and, ih, List.all_cons]
def words1 : List Jvm.Cond := Jvm.Cond.code x code maxLocals ret :: tables_1
/-- a 'code' word, met by the world's own term for the bytes: nothing is compared byte by byte -/
theorem code_word {y : MethodName} {bytes : ByteArray} {mx : Nat} {rt : Option FieldType} {a : Array Value} {s : State} {m : MethodId} {meth : Method} {c : Code} (h1 : s.methodNamed? y = some m) (h2 : s.vm.method? m = some meth) (h3 : meth.code = some c) (h4 : c.code = bytes)
    (h5 : (c.maxLocals == mx && c.exceptionTable.isEmpty && decide (c.maxStack ≤ mostOperands) && decide (meth.sig.returnType = rt) && !meth.locks && decide (parseMethodDescriptor y.desc = some meth.sig)) = true) : (Jvm.Cond.code y bytes mx rt).before a s = true := by
  simp only [Bool.and_eq_true, beq_iff_eq, Bool.not_eq_true', decide_eq_true_eq] at h5
  obtain ⟨⟨⟨⟨⟨g1, g2⟩, g3⟩, g4⟩, g5⟩, g6⟩ := h5
  simp [Cond.before, Cond.holds, Cond.value, h1, h2, h3, h4, g1, g2, g3, g4, g5, g6]
def isCode : Jvm.Cond → Bool
  | .code _ _ _ _ => true
  | _ => false
theorem all_split {L : List Jvm.Cond} {P : Jvm.Cond → Bool} (h1 : L.all (fun c => isCode c || P c) = true) (h2 : ∀ c ∈ L.filter isCode, P c = true) : L.all P = true := by
  refine List.all_eq_true.mpr fun c hc => ?_
  have h := List.all_eq_true.mp h1 c hc
  rcases Bool.eq_false_or_eq_true (isCode c) with hi | hi
  · exact h2 c (List.mem_filter.mpr ⟨hc, hi⟩)
  · simpa [hi] using h
set_option maxRecDepth 65536 in
theorem w_c0 : (Jvm.Cond.code x code maxLocals ret).before args0 about1 = true := code_word (m := ⟨1, 1⟩) (meth := k1m1) (c := k1c1) (by decide +kernel) rfl rfl rfl (by decide +kernel)
set_option maxRecDepth 65536 in
theorem w_c1 : (Jvm.Cond.code ({ cls := "com/example/tallywire/tallywire/engine/ValueType", name := "isXmlWhitespace", desc := "(C)Z" } : Jvm.MethodName) prog_99_method_15_code (1 : Nat) (Option.some Jvm.ClassFile.FieldType.boolean)).before args0 about1 = true := code_word (m := ⟨2, 0⟩) (meth := k2m0) (c := k2c0) (by decide +kernel) rfl rfl rfl (by decide +kernel)
def codes1 : List Jvm.Cond := [Jvm.Cond.code x code maxLocals ret, Jvm.Cond.code ({ cls := "com/example/tallywire/tallywire/engine/ValueType", name := "isXmlWhitespace", desc := "(C)Z" } : Jvm.MethodName) prog_99_method_15_code (1 : Nat) (Option.some Jvm.ClassFile.FieldType.boolean)]
set_option maxRecDepth 65536 in
theorem codes_eq : words1.filter isCode = codes1 := rfl
theorem w_codes : ∀ c ∈ words1.filter isCode, c.before args0 about1 = true := by
  rw [codes_eq]
  intro c hc
  simp only [codes1, List.mem_cons, List.not_mem_nil, or_false] at hc
  rcases hc with rfl | rfl
  · exact w_c0
  · exact w_c1
set_option maxRecDepth 65536 in
theorem w_t1 : words1.all (fun c => isCode c || c.before args0 about1) = true := by decide +kernel
theorem w_tables : (allAtoms (Jvm.Cond.code x code maxLocals ret :: tables_1)).before args0 about1 = true := by
  rw [allAtoms_all]
  show words1.all (fun c => c.before args0 about1) = true
  refine all_split ?_ w_codes
  rw [w_t1]
set_option maxRecDepth 65536 in
theorem w_case : (Jvm.Cond.and given_1 narrow_1).before args0 about1 = true := by decide +kernel
theorem w_applies : (headSpec (Jvm.Cond.code x code maxLocals ret :: tables_1) room_1).applies x e0.platform about1 = true :=
  (Spec.applies_iff w_frames).mpr ⟨w_running, w_runnable, w_alone, w_named, w_hears, w_ripe, w_room, w_tables⟩
theorem atStart : AtStart classFile x code maxLocals ret World_1 tables_1 room_1 Calls_1 rest_1 Pre_1 launch0 p0 e0 about1 theMethod args0 below0 :=
  ⟨lists_1, trivial, launch0.admits_env _ _ _, launch0.least_env, fairChoices_fair.cas, fairChoices_fair.clock, w_frames, w_args, w_heap, w_applies, trivial, trivial, w_case⟩
end start1
theorem witness_1 : WitnessClaimed_1 := ⟨start1.p0, start1.e0, start1.about1, start1.theMethod, start1.args0, start1.below0, start1.atStart⟩
end Jvm.Pilot.@@N@@
