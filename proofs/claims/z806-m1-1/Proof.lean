import JvmDerived
import JvmDerived.Pilot.@@N@@Statement
import JvmDerived.Pilot.@@N@@Code
set_option linter.unusedVariables false
set_option linter.unusedSimpArgs false
namespace Jvm.RoadKit
open Sem ClassFile Op Lib Jvm.Stand Jvm.Free Jvm.LawKit
section New
variable {p : Program} {l : Launch} {e : Env} {R : Room} {s : State} {m : MethodId} {args : Array Value} {below : List Frame} {meth : Method} {c : Code} {T : State} {locs : List Loc} {cells slots : Nat}
theorem retI (X : Stand p l e R s m args below meth c T locs cells slots) (hx : p.tables.exec = Jvm.exec) {pc : Nat} {Ls : Array Slot} {z : Int32} {rest : List Value} (hret : meth.sig.returnType = some .int) (hd : decode c.code pc = .ok (.ireturn, 1)) {fs : List Frame}
    (hl : ∀ (f : JFrame) (acts : List Action), f.method = m → f.locked = none → f.entered = [] → (doReturn e (T.setTop f) acts (some (.int z))).1 = T.setFrames fs) : Steps p.tables e below (T.setTop (mkF m pc Ls (.int z :: rest))) (T.setFrames fs) := by
  have hm' : T.vm.method? m = some meth := X.method'
  have hn : narrow .int (.int z) = .int z := rfl
  show Steps p.tables e below (T.setTop { method := m, pc := pc, locals := Ls, stack := _ :: rest, locked := none }) _
  jvm_step X.here [X.here.top, hx, hd, hm', hret, hn]
  first | (intro acts; rw [hl _ acts rfl rfl rfl]) | rw [hl _ _ rfl rfl rfl]
  exact Steps.refl _
end New
end Jvm.RoadKit
@@BLOCK:NumsL.lean.txt@@
namespace Jvm.Pilot.@@N@@
open Jvm Jvm.ClassFile Sem Op Lib Jvm.Free Jvm.Stand Jvm.LawKit Jvm.RoadKit Bundle Jvm.Pilot.@@N@@.Jvm.D
def own_End (p : Program) (e : Env) (below : List Frame) (P : Outcome → State → Prop) (S : State) : Prop :=
  ∃ s₂ o, Steps p.tables e below S s₂ ∧ s₂.status = .running ∧ Ended s₂ below o ∧ P o s₂
abbrev own_Met (l : Launch) (Z : State) (y : MethodName) (bytes : ByteArray) (maxL : Nat) (rt : Option FieldType) (ws : List Jvm.Cond) (rm : Room) (as' : Array Value) (h0 : Heap) (Q : Option Value → Heap → List Loc → Prop) : Prop :=
  MetFree l y (head1 (Jvm.Cond.code y bytes maxL rt :: ws) rm) (fun a U => a = as' ∧ Z.Warmed39 U.vm ∧ U.heap = h0) (fun _ _ _ _ _ => True) (fun _ U o U' => ∃ v L, o = .returned v ∧ Q v U'.heap L ∧ FrameEnd U o U' L rm.cells rm.slots)
def own_Ok (Q : Option Value → Heap → List Loc → Prop) (s : State) (kc ks : Nat) (P : Outcome → State → Prop) : Prop := ∀ v U L, Q v U.heap L → FrameEnd s (.returned v) U L kc ks → P (.returned v) U
section Own
variable {p : Program} {l : Launch} {e : Env} {R : Room} {s : State} {m : MethodId} {args : Array Value} {below : List Frame} {meth : Method} {c : Code} {T : State} {locs : List Loc} {cells slots : Nat} {Z : State} {a0 : Array Value} {h : Heap} {P : Outcome → State → Prop}
theorem own_st {S S' : State} (q : ∀ t, Steps p.tables e below S' t → Steps p.tables e below S t) (k : own_End p e below P S') : own_End p e below P S := by
  obtain ⟨a, b, c, d⟩ := k
  exact ⟨a, b, q _ c, d⟩
theorem own_tr {S S' : State} (q : Steps p.tables e below S S') (k : own_End p e below P S') : own_End p e below P S := own_st (fun _ r => q.trans r) k
theorem own_enter {y : MethodName} {bytes : ByteArray} {maxL : Nat} {rt : Option FieldType} {ws : List Jvm.Cond} {rm : Room} {as' : Array Value} {h0 : Heap} {Q : Option Value → Heap → List Loc → Prop} (hpl : plainFor y = true)
    (body : ∀ (p : Program) (e : Env) (s : State) (m : MethodId) (below : List Frame) (meth : Method) (c : Code) (s₁ : State) (P : Outcome → State → Prop), p.tables.exec = Jvm.exec → c.code = bytes → c.maxLocals = maxL → meth.sig.returnType = rt → meth.locks = false → s.vm.findClass y.cls = some m.cls → meth.name = y.name → Z.Warmed39 s.vm →
      Stand p l e rm s m as' below meth c s₁ [] 0 0 → s₁.heap = h0 → own_Ok Q s rm.cells rm.slots P → own_End p e below P (s₁.setTop (entryFrame m as' maxL))) :
    own_Met l Z y bytes maxL rt ws rm as' h0 Q := by
  refine MetFree.of_bodySF hpl hisR ?_
  intro p e s m args below meth c s₁ Bd hml0 hP hK
  obtain ⟨rfl, hZ, hh⟩ := hP
  exact body p e s m below meth c s₁ _ Bd.exec Bd.bytes hml0 Bd.returns Bd.notSynchronized (findClass_of_methodNamed Bd.named) (name_of_methodNamed Bd.named Bd.method).1 hZ (Stand.of_body Bd) (by rw [← hh, Bd.state]; rfl) (fun v U L q f => ⟨v, L, rfl, q, f⟩)
theorem own_cast {g g' : JFrame} (q : g = g') (k : own_End p e below P (T.setTop g')) : own_End p e below P (T.setTop g) := q ▸ k
theorem own_retI (X : Stand p l e R s m args below meth c T locs cells slots) (hx : p.tables.exec = Jvm.exec) (hlk : meth.locks = false) {kc ks : Nat} {Q : Option Value → Heap → List Loc → Prop} (hP : own_Ok Q s kc ks P)
    {pc : Nat} {Ls : Array Slot} {z : Int32} {rest : List Value} (hret : meth.sig.returnType = some .int) (hd : decode c.code pc = .ok (.ireturn, 1)) (h1 : cells ≤ kc) (h2 : slots ≤ ks) (hq : Q (some (.int z)) T.heap locs) : own_End p e below P (T.setTop (mkF m pc Ls (.int z :: rest))) := by
  obtain ⟨fs, hr, hrun, hended, hW, hsame⟩ := X.leave (v := some (.int z)) (fun h => by rw [hret] at h; cases h) hlk
  exact ⟨_, _, retI X hx hret hd hr, hrun, hended, hP _ _ locs hq ⟨⟨_, rfl⟩, hW, hsame.mono h1 h2⟩⟩
theorem own_retN (X : Stand p l e R s m args below meth c T locs cells slots) (hx : p.tables.exec = Jvm.exec) (hlk : meth.locks = false) {kc ks : Nat} {Q : Option Value → Heap → List Loc → Prop} (hP : own_Ok Q s kc ks P)
    {pc : Nat} {Ls : Array Slot} {z : Int32} {t : FieldType} {rest : List Value} (ht : t = .boolean ∨ t = .byte ∨ t = .char ∨ t = .short) (hret : meth.sig.returnType = some t) (hd : decode c.code pc = .ok (.ireturn, 1)) (h1 : cells ≤ kc) (h2 : slots ≤ ks) (hq : Q (some (.int (nar t z))) T.heap locs) : own_End p e below P (T.setTop (mkF m pc Ls (.int z :: rest))) := by
  obtain ⟨fs, hr, hrun, hended, hW, hsame⟩ := X.leave (v := some (.int (nar t z))) (fun h => by rw [hret] at h; cases h) hlk
  exact ⟨_, _, retN X hx hret ht hd hr, hrun, hended, hP _ _ locs hq ⟨⟨_, rfl⟩, hW, hsame.mono h1 h2⟩⟩
theorem own_retL (X : Stand p l e R s m args below meth c T locs cells slots) (hx : p.tables.exec = Jvm.exec) (hlk : meth.locks = false) {kc ks : Nat} {Q : Option Value → Heap → List Loc → Prop} (hP : own_Ok Q s kc ks P)
    {pc : Nat} {Ls : Array Slot} {z : Int64} {rest : List Value} (hret : meth.sig.returnType = some .long) (hd : decode c.code pc = .ok (.lreturn, 1)) (h1 : cells ≤ kc) (h2 : slots ≤ ks) (hq : Q (some (.long z)) T.heap locs) : own_End p e below P (T.setTop (mkF m pc Ls (.long z :: rest))) := by
  obtain ⟨fs, hr, hrun, hended, hW, hsame⟩ := X.leave (v := some (.long z)) (fun h => by rw [hret] at h; cases h) hlk
  exact ⟨_, _, retOut X hx hret rfl (Or.inr (Or.inl ⟨rfl, rfl, z, rfl⟩)) hd hr, hrun, hended, hP _ _ locs hq ⟨⟨_, rfl⟩, hW, hsame.mono h1 h2⟩⟩
theorem own_retR (X : Stand p l e R s m args below meth c T locs cells slots) (hx : p.tables.exec = Jvm.exec) (hlk : meth.locks = false) {kc ks : Nat} {Q : Option Value → Heap → List Loc → Prop} (hP : own_Ok Q s kc ks P)
    {pc : Nat} {Ls : Array Slot} {w : Value} {t : FieldType} {rest : List Value} (hw : w.isRef = true) (ht : t.isReference = true) (hret : meth.sig.returnType = some t) (hd : decode c.code pc = .ok (.areturn, 1)) (h1 : cells ≤ kc) (h2 : slots ≤ ks) (hq : Q (some w) T.heap locs) : own_End p e below P (T.setTop (mkF m pc Ls (w :: rest))) := by
  obtain ⟨fs, hr, hrun, hended, hW, hsame⟩ := X.leave (v := some w) (fun h => by rw [hret] at h; cases h) hlk
  have hn : narrow t w = w := by rcases ref_cases hw with rfl | ⟨a, rfl⟩ <;> cases t <;> rfl
  exact ⟨_, _, retOut X hx hret hn (Or.inr (Or.inr (Or.inr (Or.inr ⟨rfl, ht, hw⟩)))) hd hr, hrun, hended, hP _ _ locs hq ⟨⟨_, rfl⟩, hW, hsame.mono h1 h2⟩⟩
theorem own_retV (X : Stand p l e R s m args below meth c T locs cells slots) (hx : p.tables.exec = Jvm.exec) (hlk : meth.locks = false) {kc ks : Nat} {Q : Option Value → Heap → List Loc → Prop} (hP : own_Ok Q s kc ks P)
    {pc : Nat} {Ls : Array Slot} (hret : meth.sig.returnType = none) (hd : decode c.code pc = .ok (.return_, 1)) (h1 : cells ≤ kc) (h2 : slots ≤ ks) (hq : Q none T.heap locs) : own_End p e below P (T.setTop (mkF m pc Ls [])) := by
  obtain ⟨fs, hr, hrun, hended, hW, hsame⟩ := X.leave (v := none) (fun _ => rfl) hlk
  exact ⟨_, _, X.returnOut hx hret hd hr, hrun, hended, hP _ _ locs hq ⟨⟨_, rfl⟩, hW, hsame.mono h1 h2⟩⟩
theorem own_callS (X : Stand p l e R s m args below meth c T locs cells slots) (hx : p.tables.exec = Jvm.exec) (hZ : Z.Warmed39 s.vm) {own : String} {index : Nat} {y : MethodName} {bytes : ByteArray} {maxL : Nat} {rt : Option FieldType} {rm : Room} {as' : Array Value} {Q : Option Value → Heap → List Loc → Prop}
    (hown : s.vm.findClass own = some m.cls) (w1 : (Jvm.Cond.methodLink own index y).before a0 Z = true) (w2 : (Jvm.Cond.static y).before a0 Z = true) (w3 : (Jvm.Cond.initialized y.cls).before a0 Z = true) (w4 : (Jvm.Cond.code y bytes maxL rt).before a0 Z = true) (hy : y.cls ≠ "java/lang/invoke/MethodHandle" ∧ y.cls ≠ "java/lang/invoke/VarHandle")
    (hM : own_Met l Z y bytes maxL rt [] rm as' h Q) (W : Nat) (hf : rm.frames + 1 ≤ R.frames) (hl : W + (maxL + 11) + rm.locals ≤ R.locals) (eT : T.heap = h) (hc : cells + rm.cells ≤ R.cells) (hs : slots + rm.slots ≤ R.slots)
    {g : JFrame} (hg : g.method = m) (hsize : g.locals.size = c.maxLocals) {argsL rest : List Value} (ha : argsL.toArray = as') (hlen : ∀ sig, parseMethodDescriptor y.desc = some sig → argsL.length = sig.parameters.length) (hstack : g.stack = argsL.reverse ++ rest) (hW : 2 * g.monitorRoom + (rest.map fun v => v.category).sum ≤ W) (hdg : decode c.code g.pc = .ok (.invokestatic index, 3))
    (k : ∀ v T' L, Stand p l e R s m args below meth c T' (locs ++ L) (cells + rm.cells) (slots + rm.slots) → Q v T'.heap L → own_End p e below P (T'.setTop { g with pc := g.pc + 3, stack := v.toList ++ rest })) : own_End p e below P (T.setTop g) := by
  obtain ⟨v, vm₁, ⟨T', L', k', n'⟩, -, X', ⟨L, hQ, h1, h2, h3⟩, st⟩ := Jvm.LawKit.callS X hx hown (mvT hZ w1) (mvT hZ w2) (mvT hZ w3) (mvT hZ w4) hy (backOf (W := W) hM hZ w4 w3 hf hl) hg hsize hlen hstack hW hdg (fun _ _ => ⟨ha, eT, hc, hs⟩)
  dsimp only [Pt.U, Pt.locs, Pt.cells, Pt.slots] at X' h1 h2 h3 st hQ
  subst h1 h2 h3
  exact own_st st (k v T' L X' hQ)
theorem own_callI (X : Stand p l e R s m args below meth c T locs cells slots) (hx : p.tables.exec = Jvm.exec) (hZ : Z.Warmed39 s.vm) {own : String} {index : Nat} {y : MethodName} {bytes : ByteArray} {maxL : Nat} {rm : Room} {as' : Array Value} {Q : Option Value → Heap → List Loc → Prop}
    (hy1 : y.name = "<init>") (hown : s.vm.findClass own = some m.cls) (w1 : (Jvm.Cond.methodLink own index y).before a0 Z = true) (w2 : (Jvm.Cond.instanceMethod y).before a0 Z = true) (w3 : (Jvm.Cond.initialized y.cls).before a0 Z = true) (w4 : (Jvm.Cond.code y bytes maxL none).before a0 Z = true) (hy : y.cls ≠ "java/lang/invoke/MethodHandle" ∧ y.cls ≠ "java/lang/invoke/VarHandle")
    (hM : own_Met l Z y bytes maxL none [] rm as' h Q) (W : Nat) (hf : rm.frames + 1 ≤ R.frames) (hl : W + (maxL + 11) + rm.locals ≤ R.locals) (eT : T.heap = h) (hc : cells + rm.cells ≤ R.cells) (hs : slots + rm.slots ≤ R.slots)
    {g : JFrame} (hg : g.method = m) (hsize : g.locals.size = c.maxLocals) {a : Addr} {argsL rest : List Value} (ha : (Value.ref a :: argsL).toArray = as') (hlen : ∀ sig, parseMethodDescriptor y.desc = some sig → argsL.length = sig.parameters.length) (hstack : g.stack = argsL.reverse ++ .ref a :: rest) (hW : 2 * g.monitorRoom + (rest.map fun v => v.category).sum ≤ W) (hdg : decode c.code g.pc = .ok (.invokespecial index, 3))
    (k : ∀ v T' L, Stand p l e R s m args below meth c T' (locs ++ L) (cells + rm.cells) (slots + rm.slots) → Q v T'.heap L → own_End p e below P (T'.setTop { g with pc := g.pc + 3, stack := v.toList ++ rest })) : own_End p e below P (T.setTop g) := by
  obtain ⟨v, vm₁, ⟨T', L', k', n'⟩, -, X', ⟨L, hQ, h1, h2, h3⟩, st⟩ := X.specialBack hx hy1 hown (mvT hZ w1) (mvT hZ w2) (mvT hZ w4) hy (backOf (W := W) hM hZ w4 w3 hf hl) hg hsize (Steps.refl _) hlen hstack hW hdg (fun _ _ => ⟨ha, eT, hc, hs⟩)
  dsimp only [Pt.U, Pt.locs, Pt.cells, Pt.slots] at X' h1 h2 h3 st hQ
  subst h1 h2 h3
  exact own_tr st (k v T' L X' hQ)
theorem own_callV (X : Stand p l e R s m args below meth c T locs cells slots) (hx : p.tables.exec = Jvm.exec) (hZ : Z.Warmed39 s.vm) {own C : String} {index : Nat} {y z : MethodName} {bytes : ByteArray} {maxL : Nat} {rt : Option FieldType} {rm : Room} {as' : Array Value} {Q : Option Value → Heap → List Loc → Prop}
    (hown : s.vm.findClass own = some m.cls) (w1 : (Jvm.Cond.methodLink own index y).before a0 Z = true) (w2 : (Jvm.Cond.declares y).before a0 Z = true) (hnf : NotFace s y) (w5 : (Jvm.Cond.selects C y z).before a0 Z = true) (w6 : (Jvm.Cond.instanceMethod z).before a0 Z = true) (w3 : (Jvm.Cond.initialized z.cls).before a0 Z = true) (w4 : (Jvm.Cond.code z bytes maxL rt).before a0 Z = true) (hy : y.cls ≠ "java/lang/invoke/MethodHandle" ∧ y.cls ≠ "java/lang/invoke/VarHandle")
    {a : Addr} (E : Exa Z h a C) (hM : own_Met l Z z bytes maxL rt [] rm as' h Q) (W : Nat) (hf : rm.frames + 1 ≤ R.frames) (hl : W + (maxL + 11) + rm.locals ≤ R.locals) (eT : T.heap = h) (hc : cells + rm.cells ≤ R.cells) (hs : slots + rm.slots ≤ R.slots)
    {g : JFrame} (hg : g.method = m) (hsize : g.locals.size = c.maxLocals) {argsL rest : List Value} (ha : (Value.ref a :: argsL).toArray = as') (hlen : ∀ sig, parseMethodDescriptor y.desc = some sig → argsL.length = sig.parameters.length) (hstack : g.stack = argsL.reverse ++ .ref a :: rest) (hW : 2 * g.monitorRoom + (rest.map fun v => v.category).sum ≤ W) (hdg : decode c.code g.pc = .ok (.invokevirtual index, 3))
    (k : ∀ v T' L, Stand p l e R s m args below meth c T' (locs ++ L) (cells + rm.cells) (slots + rm.slots) → Q v T'.heap L → own_End p e below P (T'.setTop { g with pc := g.pc + 3, stack := v.toList ++ rest })) : own_End p e below P (T.setTop g) := by
  obtain ⟨cB, kB, q1, q2, q3⟩ := isOf hZ eT E
  obtain ⟨v, vm₁, ⟨T', L', k', n'⟩, -, X', ⟨L, hQ, h1, h2, h3⟩, st⟩ := X.virtualBack hx (y := y) (z := z) hown (mvT hZ w1) (mvT hZ w2) hnf (mvT hZ w5) (mvT hZ w6) hy (backOf (W := W) hM hZ w4 w3 hf hl) q1 q3 hg hsize (Steps.refl _) hlen hstack hW hdg (fun _ _ => ⟨ha, eT, hc, hs⟩)
  dsimp only [Pt.U, Pt.locs, Pt.cells, Pt.slots] at X' h1 h2 h3 st hQ
  subst h1 h2 h3
  exact own_tr st (k v T' L X' hQ)
theorem own_callU (X : Stand p l e R s m args below meth c T locs cells slots) (hx : p.tables.exec = Jvm.exec) (hZ : Z.Warmed39 s.vm) {own C owner : String} {index : Nat} {x y : MethodName} {bytes : ByteArray} {maxL : Nat} {rt : Option FieldType} {rm : Room} {as' : Array Value} {Q : Option Value → Heap → List Loc → Prop}
    (hown : s.vm.findClass own = some m.cls) (w1 : (Jvm.Cond.methodLink own index x).before a0 Z = true) (w2 : (Jvm.Cond.sameMethod x.cls owner x.name x.desc).before a0 Z = true) (w7 : (Jvm.Cond.declares ⟨owner, x.name, x.desc⟩).before a0 Z = true) (hy : owner ≠ "java/lang/invoke/MethodHandle" ∧ owner ≠ "java/lang/invoke/VarHandle") (w5 : (Jvm.Cond.selects C x y).before a0 Z = true) (w6 : (Jvm.Cond.instanceMethod y).before a0 Z = true) (w3 : (Jvm.Cond.initialized y.cls).before a0 Z = true) (w4 : (Jvm.Cond.code y bytes maxL rt).before a0 Z = true)
    {a : Addr} (E : Exa Z h a C) (hM : own_Met l Z y bytes maxL rt [] rm as' h Q) (W : Nat) (hf : rm.frames + 1 ≤ R.frames) (hl : W + (maxL + 11) + rm.locals ≤ R.locals) (eT : T.heap = h) (hc : cells + rm.cells ≤ R.cells) (hs : slots + rm.slots ≤ R.slots)
    {g : JFrame} (hg : g.method = m) (hsize : g.locals.size = c.maxLocals) {argsL rest : List Value} (ha : (Value.ref a :: argsL).toArray = as') (hlen : ∀ sig, parseMethodDescriptor x.desc = some sig → argsL.length = sig.parameters.length) (hstack : g.stack = argsL.reverse ++ .ref a :: rest) (hW : 2 * g.monitorRoom + (rest.map fun v => v.category).sum ≤ W) (hdg : decode c.code g.pc = .ok (.invokevirtual index, 3))
    (k : ∀ v T' L, Stand p l e R s m args below meth c T' (locs ++ L) (cells + rm.cells) (slots + rm.slots) → Q v T'.heap L → own_End p e below P (T'.setTop { g with pc := g.pc + 3, stack := v.toList ++ rest })) : own_End p e below P (T.setTop g) := by
  obtain ⟨cB, kB, q1, q2, q3⟩ := isOf hZ eT E
  obtain ⟨v, vm₁, ⟨T', L', k', n'⟩, -, X', ⟨L, hQ, h1, h2, h3⟩, st⟩ := X.virtualBackUp hx (x := x) (y := y) hown (mvT hZ w1) (mvT hZ w2) (mvT hZ w7) hy (mvT hZ w5) (mvT hZ w6) (backOf (W := W) hM hZ w4 w3 hf hl) q1 q3 hg hsize (Steps.refl _) hlen hstack hW hdg (fun _ _ => ⟨ha, eT, hc, hs⟩)
  dsimp only [Pt.U, Pt.locs, Pt.cells, Pt.slots] at X' h1 h2 h3 st hQ
  subst h1 h2 h3
  exact own_tr st (k v T' L X' hQ)
theorem own_lt {x y : Int64} : lcmpW x y < 0 ↔ x < y := by rw [lcW]; exact lc_lt x y
theorem own_gt {x y : Int64} : 0 < lcmpW x y ↔ y < x := by rw [lcW]; exact lc_gt x y
theorem own_eq {x y : Int64} : lcmpW x y = 0 ↔ x = y := by rw [lcW]; exact lc_eq x y
theorem own_eqInt {first : State} {o : Option Outcome} {idx : List Nat} {t : Term} {k : Int32} (q : (Jvm.Cond.eq t (.int k)).value args first o s idx = some true) : t.eval args first o idx s = some (.int k) := by
  obtain ⟨x, y, e1, e2, k1, k2⟩ := cmp_v (Or.inl q)
  rw [Term.int_eval] at e2
  cases e2
  obtain ⟨z, rfl⟩ := k2
  rw [e1, gotT (Cond.eq_ints e1 (Term.int_eval k)) q]
end Own
theorem own_d1_0 : decode prog_26_method_3_code 0 = .ok (.iload_n 0, 1) := by decide +kernel
theorem own_d1_1 : decode prog_26_method_3_code 1 = .ok (.bipush 9, 2) := by decide +kernel
theorem own_d1_3 : decode prog_26_method_3_code 3 = .ok (.if_icmp .eq 29, 3) := by decide +kernel
theorem own_d1_32 : decode prog_26_method_3_code 32 = .ok (.iconst 1, 1) := by decide +kernel
theorem own_d1_33 : decode prog_26_method_3_code 33 = .ok (.goto 4, 3) := by decide +kernel
theorem own_d1_37 : decode prog_26_method_3_code 37 = .ok (.ireturn, 1) := by decide +kernel
theorem own_d1_6 : decode prog_26_method_3_code 6 = .ok (.iload_n 0, 1) := by decide +kernel
theorem own_d1_7 : decode prog_26_method_3_code 7 = .ok (.bipush 32, 2) := by decide +kernel
theorem own_d1_9 : decode prog_26_method_3_code 9 = .ok (.if_icmp .lt 9, 3) := by decide +kernel
theorem own_d1_18 : decode prog_26_method_3_code 18 = .ok (.iload_n 0, 1) := by decide +kernel
theorem own_d1_19 : decode prog_26_method_3_code 19 = .ok (.sipush 128, 3) := by decide +kernel
theorem own_d1_22 : decode prog_26_method_3_code 22 = .ok (.if_icmp .lt 14, 3) := by decide +kernel
theorem own_d1_36 : decode prog_26_method_3_code 36 = .ok (.iconst 0, 1) := by decide +kernel
theorem own_d1_25 : decode prog_26_method_3_code 25 = .ok (.iload_n 0, 1) := by decide +kernel
theorem own_d1_26 : decode prog_26_method_3_code 26 = .ok (.sipush 255, 3) := by decide +kernel
theorem own_d1_29 : decode prog_26_method_3_code 29 = .ok (.if_icmp .gt 7, 3) := by decide +kernel
theorem own_d1_12 : decode prog_26_method_3_code 12 = .ok (.iload_n 0, 1) := by decide +kernel
theorem own_d1_13 : decode prog_26_method_3_code 13 = .ok (.bipush 126, 2) := by decide +kernel
theorem own_d1_15 : decode prog_26_method_3_code 15 = .ok (.if_icmp .le 17, 3) := by decide +kernel
theorem own_ef1 (m : MethodId) (p0 : Int32) : entryFrame m #[(.int p0)] 1 = mkF m 0 #[.val (.int p0)] [] := by first | (simp [entryFrame, mkF, argsToLocals, Value.category]; done) | rfl
def own_f1 (p0 : Int32) : Int32 := (if p0 = (9 : Int32) then (1 : Int32) else (if p0 < (32 : Int32) then (if p0 < (128 : Int32) then (0 : Int32) else (if (255 : Int32) < p0 then (0 : Int32) else (1 : Int32))) else (if (126 : Int32) < p0 then (if p0 < (128 : Int32) then (0 : Int32) else (if (255 : Int32) < p0 then (0 : Int32) else (1 : Int32))) else (1 : Int32))))
theorem own_pn_com_example_holdfast_holdfast_internal_HttpSyntax : plainName "com/example/holdfast/holdfast/internal/HttpSyntax" = true := by first | (simp [plainName, overriddenIn]; done) | decide +kernel
set_option maxRecDepth 65536 in
set_option maxHeartbeats 40000000 in
theorem own_m1 (l : Launch) (Z : State) (a0 : Array Value) (hw : ∀ d ∈ tables_1, d.before a0 Z = true) (ws : List Jvm.Cond) (p0 : Int32)  (h0 : Heap) (n0 : Nat) (Z0 : n0 ≤ h0.size)  :
    own_Met l Z (⟨"com/example/holdfast/holdfast/internal/HttpSyntax", "isFieldValueChar", "(C)Z"⟩ : MethodName) prog_26_method_3_code 1 (some .boolean) ws ({ frames := 0, cells := 0, slots := 0, locals := 0 } : Room) #[(.int p0)] h0 (fun v h L => v = some (.int (own_f1 p0)) ∧ Fr n0 L ∧ h = h0) := by
  refine own_enter (plainFor_of_name own_pn_com_example_holdfast_holdfast_internal_HttpSyntax) ?_
  intro p e s m below meth c s₁ P hx hby hml hrt hlk hown hnm hZ X0 e0 hP
  have N0 := Fr.nil n0
  have K0 := Keep.refl h0 []
  have hml' : c.maxLocals = 1 := hml
  refine own_cast (own_ef1 m p0) ?_
  show own_End p e below P (s₁.setTop (mkF m 0 #[.val (.int p0)] []))
  refine own_st (fun _ => XS.iloadN X0.here hx rfl (hb hby own_d1_0) rfl) ?_
  show own_End p e below P (s₁.setTop (mkF m 1 #[.val (.int p0)] [(.int p0)]))
  refine own_st (fun _ => XS.bipush X0.here hx rfl (hb hby own_d1_1)) ?_
  show own_End p e below P (s₁.setTop (mkF m 3 #[.val (.int p0)] [(.int (9 : Int32)), (.int p0)]))
  by_cases hc1 : p0 = (9 : Int32)
  · refine own_st (fun _ => XS.icmpYes X0.here hx rfl (pc0 := 3) (pc' := 32) rfl (hb hby own_d1_3) rfl (teq hc1).1 (by decide) (by decide)) ?_
    show own_End p e below P (s₁.setTop (mkF m 32 #[.val (.int p0)] []))
    refine own_st (fun _ => XS.iconst X0.here hx rfl (hb hby own_d1_32)) ?_
    show own_End p e below P (s₁.setTop (mkF m 33 #[.val (.int p0)] [(.int (1 : Int32))]))
    refine own_st (fun _ => XS.goto X0.here hx rfl (pc0 := 33) (pc' := 37) rfl (hb hby own_d1_33) (by decide) (by decide)) ?_
    show own_End p e below P (s₁.setTop (mkF m 37 #[.val (.int p0)] [(.int (1 : Int32))]))
    refine own_retN X0 hx hlk hP (t := .boolean) (by simp) hrt (hb hby own_d1_37) (by decide) (by decide) ⟨congrArg (fun z => some (Value.int z)) ?_, N0, e0⟩
    exact (show own_f1 p0 = (1 : Int32) from (if_pos hc1).trans (rfl)).symm
  · refine own_st (fun _ => XS.icmpNo X0.here hx rfl (hb hby own_d1_3) rfl (feq hc1).1) ?_
    show own_End p e below P (s₁.setTop (mkF m 6 #[.val (.int p0)] []))
    refine own_st (fun _ => XS.iloadN X0.here hx rfl (hb hby own_d1_6) rfl) ?_
    show own_End p e below P (s₁.setTop (mkF m 7 #[.val (.int p0)] [(.int p0)]))
    refine own_st (fun _ => XS.bipush X0.here hx rfl (hb hby own_d1_7)) ?_
    show own_End p e below P (s₁.setTop (mkF m 9 #[.val (.int p0)] [(.int (32 : Int32)), (.int p0)]))
    by_cases hc2 : p0 < (32 : Int32)
    · refine own_st (fun _ => XS.icmpYes X0.here hx rfl (pc0 := 9) (pc' := 18) rfl (hb hby own_d1_9) rfl (tlt hc2).1 (by decide) (by decide)) ?_
      show own_End p e below P (s₁.setTop (mkF m 18 #[.val (.int p0)] []))
      refine own_st (fun _ => XS.iloadN X0.here hx rfl (hb hby own_d1_18) rfl) ?_
      show own_End p e below P (s₁.setTop (mkF m 19 #[.val (.int p0)] [(.int p0)]))
      refine own_st (fun _ => XS.sipush X0.here hx rfl (hb hby own_d1_19)) ?_
      show own_End p e below P (s₁.setTop (mkF m 22 #[.val (.int p0)] [(.int (128 : Int32)), (.int p0)]))
      by_cases hc3 : p0 < (128 : Int32)
      · refine own_st (fun _ => XS.icmpYes X0.here hx rfl (pc0 := 22) (pc' := 36) rfl (hb hby own_d1_22) rfl (tlt hc3).1 (by decide) (by decide)) ?_
        show own_End p e below P (s₁.setTop (mkF m 36 #[.val (.int p0)] []))
        refine own_st (fun _ => XS.iconst X0.here hx rfl (hb hby own_d1_36)) ?_
        show own_End p e below P (s₁.setTop (mkF m 37 #[.val (.int p0)] [(.int (0 : Int32))]))
        refine own_retN X0 hx hlk hP (t := .boolean) (by simp) hrt (hb hby own_d1_37) (by decide) (by decide) ⟨congrArg (fun z => some (Value.int z)) ?_, N0, e0⟩
        exact (show own_f1 p0 = (0 : Int32) from (if_neg hc1).trans ((if_pos hc2).trans ((if_pos hc3).trans (rfl)))).symm
      · refine own_st (fun _ => XS.icmpNo X0.here hx rfl (hb hby own_d1_22) rfl (flt hc3).1) ?_
        show own_End p e below P (s₁.setTop (mkF m 25 #[.val (.int p0)] []))
        refine own_st (fun _ => XS.iloadN X0.here hx rfl (hb hby own_d1_25) rfl) ?_
        show own_End p e below P (s₁.setTop (mkF m 26 #[.val (.int p0)] [(.int p0)]))
        refine own_st (fun _ => XS.sipush X0.here hx rfl (hb hby own_d1_26)) ?_
        show own_End p e below P (s₁.setTop (mkF m 29 #[.val (.int p0)] [(.int (255 : Int32)), (.int p0)]))
        by_cases hc4 : (255 : Int32) < p0
        · refine own_st (fun _ => XS.icmpYes X0.here hx rfl (pc0 := 29) (pc' := 36) rfl (hb hby own_d1_29) rfl (tlt hc4).2.2.1 (by decide) (by decide)) ?_
          show own_End p e below P (s₁.setTop (mkF m 36 #[.val (.int p0)] []))
          refine own_st (fun _ => XS.iconst X0.here hx rfl (hb hby own_d1_36)) ?_
          show own_End p e below P (s₁.setTop (mkF m 37 #[.val (.int p0)] [(.int (0 : Int32))]))
          refine own_retN X0 hx hlk hP (t := .boolean) (by simp) hrt (hb hby own_d1_37) (by decide) (by decide) ⟨congrArg (fun z => some (Value.int z)) ?_, N0, e0⟩
          exact (show own_f1 p0 = (0 : Int32) from (if_neg hc1).trans ((if_pos hc2).trans ((if_neg hc3).trans ((if_pos hc4).trans (rfl))))).symm
        · refine own_st (fun _ => XS.icmpNo X0.here hx rfl (hb hby own_d1_29) rfl (flt hc4).2.2.1) ?_
          show own_End p e below P (s₁.setTop (mkF m 32 #[.val (.int p0)] []))
          refine own_st (fun _ => XS.iconst X0.here hx rfl (hb hby own_d1_32)) ?_
          show own_End p e below P (s₁.setTop (mkF m 33 #[.val (.int p0)] [(.int (1 : Int32))]))
          refine own_st (fun _ => XS.goto X0.here hx rfl (pc0 := 33) (pc' := 37) rfl (hb hby own_d1_33) (by decide) (by decide)) ?_
          show own_End p e below P (s₁.setTop (mkF m 37 #[.val (.int p0)] [(.int (1 : Int32))]))
          refine own_retN X0 hx hlk hP (t := .boolean) (by simp) hrt (hb hby own_d1_37) (by decide) (by decide) ⟨congrArg (fun z => some (Value.int z)) ?_, N0, e0⟩
          exact (show own_f1 p0 = (1 : Int32) from (if_neg hc1).trans ((if_pos hc2).trans ((if_neg hc3).trans ((if_neg hc4).trans (rfl))))).symm
    · refine own_st (fun _ => XS.icmpNo X0.here hx rfl (hb hby own_d1_9) rfl (flt hc2).1) ?_
      show own_End p e below P (s₁.setTop (mkF m 12 #[.val (.int p0)] []))
      refine own_st (fun _ => XS.iloadN X0.here hx rfl (hb hby own_d1_12) rfl) ?_
      show own_End p e below P (s₁.setTop (mkF m 13 #[.val (.int p0)] [(.int p0)]))
      refine own_st (fun _ => XS.bipush X0.here hx rfl (hb hby own_d1_13)) ?_
      show own_End p e below P (s₁.setTop (mkF m 15 #[.val (.int p0)] [(.int (126 : Int32)), (.int p0)]))
      by_cases hc5 : (126 : Int32) < p0
      · refine own_st (fun _ => XS.icmpNo X0.here hx rfl (hb hby own_d1_15) rfl (tlt hc5).2.2.2) ?_
        show own_End p e below P (s₁.setTop (mkF m 18 #[.val (.int p0)] []))
        refine own_st (fun _ => XS.iloadN X0.here hx rfl (hb hby own_d1_18) rfl) ?_
        show own_End p e below P (s₁.setTop (mkF m 19 #[.val (.int p0)] [(.int p0)]))
        refine own_st (fun _ => XS.sipush X0.here hx rfl (hb hby own_d1_19)) ?_
        show own_End p e below P (s₁.setTop (mkF m 22 #[.val (.int p0)] [(.int (128 : Int32)), (.int p0)]))
        by_cases hc6 : p0 < (128 : Int32)
        · refine own_st (fun _ => XS.icmpYes X0.here hx rfl (pc0 := 22) (pc' := 36) rfl (hb hby own_d1_22) rfl (tlt hc6).1 (by decide) (by decide)) ?_
          show own_End p e below P (s₁.setTop (mkF m 36 #[.val (.int p0)] []))
          refine own_st (fun _ => XS.iconst X0.here hx rfl (hb hby own_d1_36)) ?_
          show own_End p e below P (s₁.setTop (mkF m 37 #[.val (.int p0)] [(.int (0 : Int32))]))
          refine own_retN X0 hx hlk hP (t := .boolean) (by simp) hrt (hb hby own_d1_37) (by decide) (by decide) ⟨congrArg (fun z => some (Value.int z)) ?_, N0, e0⟩
          exact (show own_f1 p0 = (0 : Int32) from (if_neg hc1).trans ((if_neg hc2).trans ((if_pos hc5).trans ((if_pos hc6).trans (rfl))))).symm
        · refine own_st (fun _ => XS.icmpNo X0.here hx rfl (hb hby own_d1_22) rfl (flt hc6).1) ?_
          show own_End p e below P (s₁.setTop (mkF m 25 #[.val (.int p0)] []))
          refine own_st (fun _ => XS.iloadN X0.here hx rfl (hb hby own_d1_25) rfl) ?_
          show own_End p e below P (s₁.setTop (mkF m 26 #[.val (.int p0)] [(.int p0)]))
          refine own_st (fun _ => XS.sipush X0.here hx rfl (hb hby own_d1_26)) ?_
          show own_End p e below P (s₁.setTop (mkF m 29 #[.val (.int p0)] [(.int (255 : Int32)), (.int p0)]))
          by_cases hc7 : (255 : Int32) < p0
          · refine own_st (fun _ => XS.icmpYes X0.here hx rfl (pc0 := 29) (pc' := 36) rfl (hb hby own_d1_29) rfl (tlt hc7).2.2.1 (by decide) (by decide)) ?_
            show own_End p e below P (s₁.setTop (mkF m 36 #[.val (.int p0)] []))
            refine own_st (fun _ => XS.iconst X0.here hx rfl (hb hby own_d1_36)) ?_
            show own_End p e below P (s₁.setTop (mkF m 37 #[.val (.int p0)] [(.int (0 : Int32))]))
            refine own_retN X0 hx hlk hP (t := .boolean) (by simp) hrt (hb hby own_d1_37) (by decide) (by decide) ⟨congrArg (fun z => some (Value.int z)) ?_, N0, e0⟩
            exact (show own_f1 p0 = (0 : Int32) from (if_neg hc1).trans ((if_neg hc2).trans ((if_pos hc5).trans ((if_neg hc6).trans ((if_pos hc7).trans (rfl)))))).symm
          · refine own_st (fun _ => XS.icmpNo X0.here hx rfl (hb hby own_d1_29) rfl (flt hc7).2.2.1) ?_
            show own_End p e below P (s₁.setTop (mkF m 32 #[.val (.int p0)] []))
            refine own_st (fun _ => XS.iconst X0.here hx rfl (hb hby own_d1_32)) ?_
            show own_End p e below P (s₁.setTop (mkF m 33 #[.val (.int p0)] [(.int (1 : Int32))]))
            refine own_st (fun _ => XS.goto X0.here hx rfl (pc0 := 33) (pc' := 37) rfl (hb hby own_d1_33) (by decide) (by decide)) ?_
            show own_End p e below P (s₁.setTop (mkF m 37 #[.val (.int p0)] [(.int (1 : Int32))]))
            refine own_retN X0 hx hlk hP (t := .boolean) (by simp) hrt (hb hby own_d1_37) (by decide) (by decide) ⟨congrArg (fun z => some (Value.int z)) ?_, N0, e0⟩
            exact (show own_f1 p0 = (1 : Int32) from (if_neg hc1).trans ((if_neg hc2).trans ((if_pos hc5).trans ((if_neg hc6).trans ((if_neg hc7).trans (rfl)))))).symm
      · refine own_st (fun _ => XS.icmpYes X0.here hx rfl (pc0 := 15) (pc' := 32) rfl (hb hby own_d1_15) rfl (flt hc5).2.2.2 (by decide) (by decide)) ?_
        show own_End p e below P (s₁.setTop (mkF m 32 #[.val (.int p0)] []))
        refine own_st (fun _ => XS.iconst X0.here hx rfl (hb hby own_d1_32)) ?_
        show own_End p e below P (s₁.setTop (mkF m 33 #[.val (.int p0)] [(.int (1 : Int32))]))
        refine own_st (fun _ => XS.goto X0.here hx rfl (pc0 := 33) (pc' := 37) rfl (hb hby own_d1_33) (by decide) (by decide)) ?_
        show own_End p e below P (s₁.setTop (mkF m 37 #[.val (.int p0)] [(.int (1 : Int32))]))
        refine own_retN X0 hx hlk hP (t := .boolean) (by simp) hrt (hb hby own_d1_37) (by decide) (by decide) ⟨congrArg (fun z => some (Value.int z)) ?_, N0, e0⟩
        exact (show own_f1 p0 = (1 : Int32) from (if_neg hc1).trans ((if_neg hc2).trans ((if_neg hc5).trans (rfl)))).symm
theorem own_lit {x : Int32} {k : Int} (e : k = x.toInt) (c : Int32) : (c = x ↔ c.toInt = k) ∧ (c < x ↔ c.toInt < k) ∧ (x < c ↔ k < c.toInt) := by
  subst e
  exact ⟨by rw [Int32.toInt_inj], Int32.lt_iff_toInt_lt, Int32.lt_iff_toInt_lt⟩
theorem own_plain {c v : Int32} (e : v = (if (255 : Int32) < c then (0 : Int32) else (if c = (127 : Int32) then (0 : Int32) else (if c < (32 : Int32) then (if c = (9 : Int32) then (1 : Int32) else (0 : Int32)) else (1 : Int32))))) : own_f1 c = v := by
  subst e
  show (if c = (9 : Int32) then (1 : Int32) else (if c < (32 : Int32) then (if c < (128 : Int32) then (0 : Int32) else (if (255 : Int32) < c then (0 : Int32) else (1 : Int32))) else (if (126 : Int32) < c then (if c < (128 : Int32) then (0 : Int32) else (if (255 : Int32) < c then (0 : Int32) else (1 : Int32))) else (1 : Int32)))) = _
  have a9 := (own_lit (x := 9) (k := 9) (by decide) c).1
  have a32 := (own_lit (x := 32) (k := 32) (by decide) c).2.1
  have a128 := (own_lit (x := 128) (k := 128) (by decide) c).2.1
  have a255 := (own_lit (x := 255) (k := 255) (by decide) c).2.2
  have a126 := (own_lit (x := 126) (k := 126) (by decide) c).2.2
  have a127 := (own_lit (x := 127) (k := 127) (by decide) c).1
  simp only [a9, a32, a128, a255, a126, a127]
  repeat' split
  all_goals first | rfl | omega
theorem own_pd_C_Z_238 : parseMethodDescriptor "(C)Z" = some ⟨[.char], some .boolean⟩ := by decide +kernel
theorem own_ef0 (m : MethodId) (p0 : Int32) (p1 : Int32) : entryFrame m #[(.int p0), (.int p1)] maxLocals = mkF m 0 #[.val (.int p0), .val (.int p1), .unset, .unset, .unset, .unset] [] := by first | (simp [entryFrame, mkF, argsToLocals, Value.category, maxLocals]; done) | rfl
theorem own_pn_com_example_holdfast_holdfast_internal_HttpSyntaxIsFieldValueCharPinLaw : plainName "com/example/holdfast/holdfast/internal/HttpSyntaxIsFieldValueCharPinLaw" = true := by first | (simp [plainName, overriddenIn]; done) | decide +kernel
set_option maxRecDepth 65536 in
set_option maxHeartbeats 40000000 in
theorem own_m0 (l : Launch) (Z : State) (a0 : Array Value) (hw : ∀ d ∈ tables_1, d.before a0 Z = true) (ws : List Jvm.Cond) (p0 : Int32) (p1 : Int32)  (h0 : Heap) (n0 : Nat) (Z0 : n0 ≤ h0.size)  :
    own_Met l Z x code maxLocals ret ws room_1 #[(.int p0), (.int p1)] h0 (fun v h L => v = some (.int 1) ∧ Fr n0 L) := by
  refine own_enter (plainFor_of_name own_pn_com_example_holdfast_holdfast_internal_HttpSyntaxIsFieldValueCharPinLaw) ?_
  intro p e s m below meth c s₁ P hx hby hml hrt hlk hown hnm hZ X0 e0 hP
  have N0 := Fr.nil n0
  have K0 := Keep.refl h0 []
  have hml' : c.maxLocals = 6 := hml
  refine own_cast (own_ef0 m p0 p1) ?_
  show own_End p e below P (s₁.setTop (mkF m 0 #[.val (.int p0), .val (.int p1), .unset, .unset, .unset, .unset] []))
  refine own_st (fun _ => XS.iloadN X0.here hx rfl (hb hby at_0) rfl) ?_
  show own_End p e below P (s₁.setTop (mkF m 1 #[.val (.int p0), .val (.int p1), .unset, .unset, .unset, .unset] [(.int p1)]))
  refine own_st (fun _ => XS.iconst X0.here hx rfl (hb hby at_1)) ?_
  show own_End p e below P (s₁.setTop (mkF m 2 #[.val (.int p0), .val (.int p1), .unset, .unset, .unset, .unset] [(.int (1 : Int32)), (.int p1)]))
  refine own_st (fun _ => XS.iand X0.here hx rfl (hb hby at_2) rfl) ?_
  show own_End p e below P (s₁.setTop (mkF m 3 #[.val (.int p0), .val (.int p1), .unset, .unset, .unset, .unset] [(.int (p1 &&& (1 : Int32)))]))
  by_cases hc1 : (p1 &&& (1 : Int32)) = (0 : Int32)
  · refine own_st (fun _ => XS.ifYes X0.here hx rfl (pc0 := 3) (pc' := 10) rfl (hb hby at_3) rfl ((if0 _ _).trans (teq hc1).1) (by decide) (by decide)) ?_
    show own_End p e below P (s₁.setTop (mkF m 10 #[.val (.int p0), .val (.int p1), .unset, .unset, .unset, .unset] []))
    refine own_st (fun _ => XS.iconst X0.here hx rfl (hb hby at_10)) ?_
    show own_End p e below P (s₁.setTop (mkF m 11 #[.val (.int p0), .val (.int p1), .unset, .unset, .unset, .unset] [(.int (0 : Int32))]))
    refine own_st (fun _ => XS.istoreN X0.here hx rfl (hb hby at_11) rfl (l' := #[.val (.int p0), .val (.int p1), .val (.int (0 : Int32)), .unset, .unset, .unset]) rfl) ?_
    show own_End p e below P (s₁.setTop (mkF m 12 #[.val (.int p0), .val (.int p1), .val (.int (0 : Int32)), .unset, .unset, .unset] []))
    refine own_st (fun _ => XS.iloadN X0.here hx rfl (hb hby at_12) rfl) ?_
    show own_End p e below P (s₁.setTop (mkF m 13 #[.val (.int p0), .val (.int p1), .val (.int (0 : Int32)), .unset, .unset, .unset] [(.int (0 : Int32))]))
    refine own_st (fun _ => XS.ifYes X0.here hx rfl (pc0 := 13) (pc' := 25) rfl (hb hby at_13) rfl ((if0 _ _).trans (teq (by decide : (0 : Int32) = (0 : Int32))).1) (by decide) (by decide)) ?_
    show own_End p e below P (s₁.setTop (mkF m 25 #[.val (.int p0), .val (.int p1), .val (.int (0 : Int32)), .unset, .unset, .unset] []))
    refine own_st (fun _ => XS.iloadN X0.here hx rfl (hb hby at_25) rfl) ?_
    show own_End p e below P (s₁.setTop (mkF m 26 #[.val (.int p0), .val (.int p1), .val (.int (0 : Int32)), .unset, .unset, .unset] [(.int p0)]))
    refine own_st (fun _ => XS.i2c X0.here hx rfl (hb hby at_26) rfl) ?_
    show own_End p e below P (s₁.setTop (mkF m 27 #[.val (.int p0), .val (.int p1), .val (.int (0 : Int32)), .unset, .unset, .unset] [(.int (p0.toUInt32.toUInt16.toUInt32.toInt32))]))
    refine own_st (fun _ => XS.istoreN X0.here hx rfl (hb hby at_27) rfl (l' := #[.val (.int p0), .val (.int p1), .val (.int (0 : Int32)), .val (.int (p0.toUInt32.toUInt16.toUInt32.toInt32)), .unset, .unset]) rfl) ?_
    show own_End p e below P (s₁.setTop (mkF m 28 #[.val (.int p0), .val (.int p1), .val (.int (0 : Int32)), .val (.int (p0.toUInt32.toUInt16.toUInt32.toInt32)), .unset, .unset] []))
    refine own_st (fun _ => XS.iloadN X0.here hx rfl (hb hby at_28) rfl) ?_
    show own_End p e below P (s₁.setTop (mkF m 29 #[.val (.int p0), .val (.int p1), .val (.int (0 : Int32)), .val (.int (p0.toUInt32.toUInt16.toUInt32.toInt32)), .unset, .unset] [(.int (p0.toUInt32.toUInt16.toUInt32.toInt32))]))
    refine own_st (fun _ => XS.istore X0.here hx rfl (hb hby at_29) rfl (l' := #[.val (.int p0), .val (.int p1), .val (.int (0 : Int32)), .val (.int (p0.toUInt32.toUInt16.toUInt32.toInt32)), .val (.int (p0.toUInt32.toUInt16.toUInt32.toInt32)), .unset]) rfl) ?_
    show own_End p e below P (s₁.setTop (mkF m 31 #[.val (.int p0), .val (.int p1), .val (.int (0 : Int32)), .val (.int (p0.toUInt32.toUInt16.toUInt32.toInt32)), .val (.int (p0.toUInt32.toUInt16.toUInt32.toInt32)), .unset] []))
    refine own_st (fun _ => XS.iload X0.here hx rfl (hb hby at_31) rfl) ?_
    show own_End p e below P (s₁.setTop (mkF m 33 #[.val (.int p0), .val (.int p1), .val (.int (0 : Int32)), .val (.int (p0.toUInt32.toUInt16.toUInt32.toInt32)), .val (.int (p0.toUInt32.toUInt16.toUInt32.toInt32)), .unset] [(.int (p0.toUInt32.toUInt16.toUInt32.toInt32))]))
    refine own_st (fun _ => XS.sipush X0.here hx rfl (hb hby at_33)) ?_
    show own_End p e below P (s₁.setTop (mkF m 36 #[.val (.int p0), .val (.int p1), .val (.int (0 : Int32)), .val (.int (p0.toUInt32.toUInt16.toUInt32.toInt32)), .val (.int (p0.toUInt32.toUInt16.toUInt32.toInt32)), .unset] [(.int (255 : Int32)), (.int (p0.toUInt32.toUInt16.toUInt32.toInt32))]))
    have J7 : ∀ v6 : Int32, v6 = (if (255 : Int32) < (p0.toUInt32.toUInt16.toUInt32.toInt32) then (0 : Int32) else (if (p0.toUInt32.toUInt16.toUInt32.toInt32) = (127 : Int32) then (0 : Int32) else (if (p0.toUInt32.toUInt16.toUInt32.toInt32) < (32 : Int32) then (if (p0.toUInt32.toUInt16.toUInt32.toInt32) = (9 : Int32) then (1 : Int32) else (0 : Int32)) else (1 : Int32)))) → own_End p e below P (s₁.setTop (mkF m 65 #[.val (.int p0), .val (.int p1), .val (.int (0 : Int32)), .val (.int (p0.toUInt32.toUInt16.toUInt32.toInt32)), .val (.int (p0.toUInt32.toUInt16.toUInt32.toInt32)), .unset] [(.int v6)])) := by
      intro v6 e_v6
      refine own_st (fun _ => XS.istore X0.here hx rfl (hb hby at_65) rfl (l' := #[.val (.int p0), .val (.int p1), .val (.int (0 : Int32)), .val (.int (p0.toUInt32.toUInt16.toUInt32.toInt32)), .val (.int (p0.toUInt32.toUInt16.toUInt32.toInt32)), .val (.int v6)]) rfl) ?_
      show own_End p e below P (s₁.setTop (mkF m 67 #[.val (.int p0), .val (.int p1), .val (.int (0 : Int32)), .val (.int (p0.toUInt32.toUInt16.toUInt32.toInt32)), .val (.int (p0.toUInt32.toUInt16.toUInt32.toInt32)), .val (.int v6)] []))
      refine own_st (fun _ => XS.iloadN X0.here hx rfl (hb hby at_67) rfl) ?_
      show own_End p e below P (s₁.setTop (mkF m 68 #[.val (.int p0), .val (.int p1), .val (.int (0 : Int32)), .val (.int (p0.toUInt32.toUInt16.toUInt32.toInt32)), .val (.int (p0.toUInt32.toUInt16.toUInt32.toInt32)), .val (.int v6)] [(.int (p0.toUInt32.toUInt16.toUInt32.toInt32))]))
      refine own_callS X0 hx hZ (y := (⟨"com/example/holdfast/holdfast/internal/HttpSyntax", "isFieldValueChar", "(C)Z"⟩ : MethodName)) hown (hw _ (List.mem_of_getElem? (i := 0) rfl)) (hw _ (List.mem_of_getElem? (i := 1) rfl)) (hw _ (List.mem_of_getElem? (i := 2) rfl)) (hw _ (List.mem_of_getElem? (i := 3) rfl)) (by decide) (own_m1 l Z a0 hw [] (p0.toUInt32.toUInt16.toUInt32.toInt32)  h0 n0 Z0 ) 0 (by decide) (by decide) e0 (by decide) (by decide) (g := (mkF m 68 #[.val (.int p0), .val (.int p1), .val (.int (0 : Int32)), .val (.int (p0.toUInt32.toUInt16.toUInt32.toInt32)), .val (.int (p0.toUInt32.toUInt16.toUInt32.toInt32)), .val (.int v6)] [(.int (p0.toUInt32.toUInt16.toUInt32.toInt32))])) rfl (by rw [hml']; rfl) (argsL := [(.int (p0.toUInt32.toUInt16.toUInt32.toInt32))]) (rest := []) rfl (lenOf own_pd_C_Z_238 rfl) rfl (by show 2 * 0 + _ ≤ _; exact Nat.le_of_eq rfl) (hb hby at_68) (fun r8 T8 L8 X8 hQ8 => ?_)
      obtain ⟨rfl, Nq8, eq8⟩ := hQ8
      have N8 := Fr.app N0 Nq8
      show own_End p e below P (T8.setTop (mkF m 71 #[.val (.int p0), .val (.int p1), .val (.int (0 : Int32)), .val (.int (p0.toUInt32.toUInt16.toUInt32.toInt32)), .val (.int (p0.toUInt32.toUInt16.toUInt32.toInt32)), .val (.int v6)] [(.int (own_f1 (p0.toUInt32.toUInt16.toUInt32.toInt32)))]))
      refine own_st (fun _ => XS.iload X8.here hx rfl (hb hby at_71) rfl) ?_
      show own_End p e below P (T8.setTop (mkF m 73 #[.val (.int p0), .val (.int p1), .val (.int (0 : Int32)), .val (.int (p0.toUInt32.toUInt16.toUInt32.toInt32)), .val (.int (p0.toUInt32.toUInt16.toUInt32.toInt32)), .val (.int v6)] [(.int v6), (.int (own_f1 (p0.toUInt32.toUInt16.toUInt32.toInt32)))]))
      have hc9 : (own_f1 (p0.toUInt32.toUInt16.toUInt32.toInt32)) = v6 := by exact own_plain e_v6
      refine own_st (fun _ => XS.icmpNo X8.here hx rfl (hb hby at_73) rfl (teq hc9).2) ?_
      show own_End p e below P (T8.setTop (mkF m 76 #[.val (.int p0), .val (.int p1), .val (.int (0 : Int32)), .val (.int (p0.toUInt32.toUInt16.toUInt32.toInt32)), .val (.int (p0.toUInt32.toUInt16.toUInt32.toInt32)), .val (.int v6)] []))
      refine own_st (fun _ => XS.iconst X8.here hx rfl (hb hby at_76)) ?_
      show own_End p e below P (T8.setTop (mkF m 77 #[.val (.int p0), .val (.int p1), .val (.int (0 : Int32)), .val (.int (p0.toUInt32.toUInt16.toUInt32.toInt32)), .val (.int (p0.toUInt32.toUInt16.toUInt32.toInt32)), .val (.int v6)] [(.int (1 : Int32))]))
      refine own_st (fun _ => XS.goto X8.here hx rfl (pc0 := 77) (pc' := 81) rfl (hb hby at_77) (by decide) (by decide)) ?_
      show own_End p e below P (T8.setTop (mkF m 81 #[.val (.int p0), .val (.int p1), .val (.int (0 : Int32)), .val (.int (p0.toUInt32.toUInt16.toUInt32.toInt32)), .val (.int (p0.toUInt32.toUInt16.toUInt32.toInt32)), .val (.int v6)] [(.int (1 : Int32))]))
      exact own_retN X8 hx hlk hP (t := .boolean) (by simp) hrt (hb hby at_81) (by decide) (by decide) ⟨rfl, N8⟩
    by_cases hc2 : (255 : Int32) < (p0.toUInt32.toUInt16.toUInt32.toInt32)
    · refine own_st (fun _ => XS.icmpYes X0.here hx rfl (pc0 := 36) (pc' := 64) rfl (hb hby at_36) rfl (tlt hc2).2.2.1 (by decide) (by decide)) ?_
      show own_End p e below P (s₁.setTop (mkF m 64 #[.val (.int p0), .val (.int p1), .val (.int (0 : Int32)), .val (.int (p0.toUInt32.toUInt16.toUInt32.toInt32)), .val (.int (p0.toUInt32.toUInt16.toUInt32.toInt32)), .unset] []))
      refine own_st (fun _ => XS.iconst X0.here hx rfl (hb hby at_64)) ?_
      show own_End p e below P (s₁.setTop (mkF m 65 #[.val (.int p0), .val (.int p1), .val (.int (0 : Int32)), .val (.int (p0.toUInt32.toUInt16.toUInt32.toInt32)), .val (.int (p0.toUInt32.toUInt16.toUInt32.toInt32)), .unset] [(.int (0 : Int32))]))
      exact J7 _ ((if_pos hc2).trans (rfl)).symm
    · refine own_st (fun _ => XS.icmpNo X0.here hx rfl (hb hby at_36) rfl (flt hc2).2.2.1) ?_
      show own_End p e below P (s₁.setTop (mkF m 39 #[.val (.int p0), .val (.int p1), .val (.int (0 : Int32)), .val (.int (p0.toUInt32.toUInt16.toUInt32.toInt32)), .val (.int (p0.toUInt32.toUInt16.toUInt32.toInt32)), .unset] []))
      refine own_st (fun _ => XS.iload X0.here hx rfl (hb hby at_39) rfl) ?_
      show own_End p e below P (s₁.setTop (mkF m 41 #[.val (.int p0), .val (.int p1), .val (.int (0 : Int32)), .val (.int (p0.toUInt32.toUInt16.toUInt32.toInt32)), .val (.int (p0.toUInt32.toUInt16.toUInt32.toInt32)), .unset] [(.int (p0.toUInt32.toUInt16.toUInt32.toInt32))]))
      refine own_st (fun _ => XS.bipush X0.here hx rfl (hb hby at_41)) ?_
      show own_End p e below P (s₁.setTop (mkF m 43 #[.val (.int p0), .val (.int p1), .val (.int (0 : Int32)), .val (.int (p0.toUInt32.toUInt16.toUInt32.toInt32)), .val (.int (p0.toUInt32.toUInt16.toUInt32.toInt32)), .unset] [(.int (127 : Int32)), (.int (p0.toUInt32.toUInt16.toUInt32.toInt32))]))
      by_cases hc10 : (p0.toUInt32.toUInt16.toUInt32.toInt32) = (127 : Int32)
      · refine own_st (fun _ => XS.icmpYes X0.here hx rfl (pc0 := 43) (pc' := 64) rfl (hb hby at_43) rfl (teq hc10).1 (by decide) (by decide)) ?_
        show own_End p e below P (s₁.setTop (mkF m 64 #[.val (.int p0), .val (.int p1), .val (.int (0 : Int32)), .val (.int (p0.toUInt32.toUInt16.toUInt32.toInt32)), .val (.int (p0.toUInt32.toUInt16.toUInt32.toInt32)), .unset] []))
        refine own_st (fun _ => XS.iconst X0.here hx rfl (hb hby at_64)) ?_
        show own_End p e below P (s₁.setTop (mkF m 65 #[.val (.int p0), .val (.int p1), .val (.int (0 : Int32)), .val (.int (p0.toUInt32.toUInt16.toUInt32.toInt32)), .val (.int (p0.toUInt32.toUInt16.toUInt32.toInt32)), .unset] [(.int (0 : Int32))]))
        exact J7 _ ((if_neg hc2).trans ((if_pos hc10).trans (rfl))).symm
      · refine own_st (fun _ => XS.icmpNo X0.here hx rfl (hb hby at_43) rfl (feq hc10).1) ?_
        show own_End p e below P (s₁.setTop (mkF m 46 #[.val (.int p0), .val (.int p1), .val (.int (0 : Int32)), .val (.int (p0.toUInt32.toUInt16.toUInt32.toInt32)), .val (.int (p0.toUInt32.toUInt16.toUInt32.toInt32)), .unset] []))
        refine own_st (fun _ => XS.iload X0.here hx rfl (hb hby at_46) rfl) ?_
        show own_End p e below P (s₁.setTop (mkF m 48 #[.val (.int p0), .val (.int p1), .val (.int (0 : Int32)), .val (.int (p0.toUInt32.toUInt16.toUInt32.toInt32)), .val (.int (p0.toUInt32.toUInt16.toUInt32.toInt32)), .unset] [(.int (p0.toUInt32.toUInt16.toUInt32.toInt32))]))
        refine own_st (fun _ => XS.bipush X0.here hx rfl (hb hby at_48)) ?_
        show own_End p e below P (s₁.setTop (mkF m 50 #[.val (.int p0), .val (.int p1), .val (.int (0 : Int32)), .val (.int (p0.toUInt32.toUInt16.toUInt32.toInt32)), .val (.int (p0.toUInt32.toUInt16.toUInt32.toInt32)), .unset] [(.int (32 : Int32)), (.int (p0.toUInt32.toUInt16.toUInt32.toInt32))]))
        by_cases hc11 : (p0.toUInt32.toUInt16.toUInt32.toInt32) < (32 : Int32)
        · refine own_st (fun _ => XS.icmpNo X0.here hx rfl (hb hby at_50) rfl (tlt hc11).2.1) ?_
          show own_End p e below P (s₁.setTop (mkF m 53 #[.val (.int p0), .val (.int p1), .val (.int (0 : Int32)), .val (.int (p0.toUInt32.toUInt16.toUInt32.toInt32)), .val (.int (p0.toUInt32.toUInt16.toUInt32.toInt32)), .unset] []))
          refine own_st (fun _ => XS.iload X0.here hx rfl (hb hby at_53) rfl) ?_
          show own_End p e below P (s₁.setTop (mkF m 55 #[.val (.int p0), .val (.int p1), .val (.int (0 : Int32)), .val (.int (p0.toUInt32.toUInt16.toUInt32.toInt32)), .val (.int (p0.toUInt32.toUInt16.toUInt32.toInt32)), .unset] [(.int (p0.toUInt32.toUInt16.toUInt32.toInt32))]))
          refine own_st (fun _ => XS.bipush X0.here hx rfl (hb hby at_55)) ?_
          show own_End p e below P (s₁.setTop (mkF m 57 #[.val (.int p0), .val (.int p1), .val (.int (0 : Int32)), .val (.int (p0.toUInt32.toUInt16.toUInt32.toInt32)), .val (.int (p0.toUInt32.toUInt16.toUInt32.toInt32)), .unset] [(.int (9 : Int32)), (.int (p0.toUInt32.toUInt16.toUInt32.toInt32))]))
          by_cases hc12 : (p0.toUInt32.toUInt16.toUInt32.toInt32) = (9 : Int32)
          · refine own_st (fun _ => XS.icmpNo X0.here hx rfl (hb hby at_57) rfl (teq hc12).2) ?_
            show own_End p e below P (s₁.setTop (mkF m 60 #[.val (.int p0), .val (.int p1), .val (.int (0 : Int32)), .val (.int (p0.toUInt32.toUInt16.toUInt32.toInt32)), .val (.int (p0.toUInt32.toUInt16.toUInt32.toInt32)), .unset] []))
            refine own_st (fun _ => XS.iconst X0.here hx rfl (hb hby at_60)) ?_
            show own_End p e below P (s₁.setTop (mkF m 61 #[.val (.int p0), .val (.int p1), .val (.int (0 : Int32)), .val (.int (p0.toUInt32.toUInt16.toUInt32.toInt32)), .val (.int (p0.toUInt32.toUInt16.toUInt32.toInt32)), .unset] [(.int (1 : Int32))]))
            refine own_st (fun _ => XS.goto X0.here hx rfl (pc0 := 61) (pc' := 65) rfl (hb hby at_61) (by decide) (by decide)) ?_
            show own_End p e below P (s₁.setTop (mkF m 65 #[.val (.int p0), .val (.int p1), .val (.int (0 : Int32)), .val (.int (p0.toUInt32.toUInt16.toUInt32.toInt32)), .val (.int (p0.toUInt32.toUInt16.toUInt32.toInt32)), .unset] [(.int (1 : Int32))]))
            exact J7 _ ((if_neg hc2).trans ((if_neg hc10).trans ((if_pos hc11).trans ((if_pos hc12).trans (rfl))))).symm
          · refine own_st (fun _ => XS.icmpYes X0.here hx rfl (pc0 := 57) (pc' := 64) rfl (hb hby at_57) rfl (feq hc12).2 (by decide) (by decide)) ?_
            show own_End p e below P (s₁.setTop (mkF m 64 #[.val (.int p0), .val (.int p1), .val (.int (0 : Int32)), .val (.int (p0.toUInt32.toUInt16.toUInt32.toInt32)), .val (.int (p0.toUInt32.toUInt16.toUInt32.toInt32)), .unset] []))
            refine own_st (fun _ => XS.iconst X0.here hx rfl (hb hby at_64)) ?_
            show own_End p e below P (s₁.setTop (mkF m 65 #[.val (.int p0), .val (.int p1), .val (.int (0 : Int32)), .val (.int (p0.toUInt32.toUInt16.toUInt32.toInt32)), .val (.int (p0.toUInt32.toUInt16.toUInt32.toInt32)), .unset] [(.int (0 : Int32))]))
            exact J7 _ ((if_neg hc2).trans ((if_neg hc10).trans ((if_pos hc11).trans ((if_neg hc12).trans (rfl))))).symm
        · refine own_st (fun _ => XS.icmpYes X0.here hx rfl (pc0 := 50) (pc' := 60) rfl (hb hby at_50) rfl (flt hc11).2.1 (by decide) (by decide)) ?_
          show own_End p e below P (s₁.setTop (mkF m 60 #[.val (.int p0), .val (.int p1), .val (.int (0 : Int32)), .val (.int (p0.toUInt32.toUInt16.toUInt32.toInt32)), .val (.int (p0.toUInt32.toUInt16.toUInt32.toInt32)), .unset] []))
          refine own_st (fun _ => XS.iconst X0.here hx rfl (hb hby at_60)) ?_
          show own_End p e below P (s₁.setTop (mkF m 61 #[.val (.int p0), .val (.int p1), .val (.int (0 : Int32)), .val (.int (p0.toUInt32.toUInt16.toUInt32.toInt32)), .val (.int (p0.toUInt32.toUInt16.toUInt32.toInt32)), .unset] [(.int (1 : Int32))]))
          refine own_st (fun _ => XS.goto X0.here hx rfl (pc0 := 61) (pc' := 65) rfl (hb hby at_61) (by decide) (by decide)) ?_
          show own_End p e below P (s₁.setTop (mkF m 65 #[.val (.int p0), .val (.int p1), .val (.int (0 : Int32)), .val (.int (p0.toUInt32.toUInt16.toUInt32.toInt32)), .val (.int (p0.toUInt32.toUInt16.toUInt32.toInt32)), .unset] [(.int (1 : Int32))]))
          exact J7 _ ((if_neg hc2).trans ((if_neg hc10).trans ((if_neg hc11).trans (rfl)))).symm
  · refine own_st (fun _ => XS.ifNo X0.here hx rfl (hb hby at_3) rfl ((if0 _ _).trans (feq hc1).1)) ?_
    show own_End p e below P (s₁.setTop (mkF m 6 #[.val (.int p0), .val (.int p1), .unset, .unset, .unset, .unset] []))
    refine own_st (fun _ => XS.iconst X0.here hx rfl (hb hby at_6)) ?_
    show own_End p e below P (s₁.setTop (mkF m 7 #[.val (.int p0), .val (.int p1), .unset, .unset, .unset, .unset] [(.int (1 : Int32))]))
    refine own_st (fun _ => XS.goto X0.here hx rfl (pc0 := 7) (pc' := 11) rfl (hb hby at_7) (by decide) (by decide)) ?_
    show own_End p e below P (s₁.setTop (mkF m 11 #[.val (.int p0), .val (.int p1), .unset, .unset, .unset, .unset] [(.int (1 : Int32))]))
    refine own_st (fun _ => XS.istoreN X0.here hx rfl (hb hby at_11) rfl (l' := #[.val (.int p0), .val (.int p1), .val (.int (1 : Int32)), .unset, .unset, .unset]) rfl) ?_
    show own_End p e below P (s₁.setTop (mkF m 12 #[.val (.int p0), .val (.int p1), .val (.int (1 : Int32)), .unset, .unset, .unset] []))
    refine own_st (fun _ => XS.iloadN X0.here hx rfl (hb hby at_12) rfl) ?_
    show own_End p e below P (s₁.setTop (mkF m 13 #[.val (.int p0), .val (.int p1), .val (.int (1 : Int32)), .unset, .unset, .unset] [(.int (1 : Int32))]))
    refine own_st (fun _ => XS.ifNo X0.here hx rfl (hb hby at_13) rfl ((if0 _ _).trans (feq (by decide : ¬ ((1 : Int32) = (0 : Int32)))).1)) ?_
    show own_End p e below P (s₁.setTop (mkF m 16 #[.val (.int p0), .val (.int p1), .val (.int (1 : Int32)), .unset, .unset, .unset] []))
    refine own_st (fun _ => XS.iloadN X0.here hx rfl (hb hby at_16) rfl) ?_
    show own_End p e below P (s₁.setTop (mkF m 17 #[.val (.int p0), .val (.int p1), .val (.int (1 : Int32)), .unset, .unset, .unset] [(.int p0)]))
    refine own_st (fun _ => XS.sipush X0.here hx rfl (hb hby at_17)) ?_
    show own_End p e below P (s₁.setTop (mkF m 20 #[.val (.int p0), .val (.int p1), .val (.int (1 : Int32)), .unset, .unset, .unset] [(.int (255 : Int32)), (.int p0)]))
    refine own_st (fun _ => XS.iand X0.here hx rfl (hb hby at_20) rfl) ?_
    show own_End p e below P (s₁.setTop (mkF m 21 #[.val (.int p0), .val (.int p1), .val (.int (1 : Int32)), .unset, .unset, .unset] [(.int (p0 &&& (255 : Int32)))]))
    refine own_st (fun _ => XS.i2c X0.here hx rfl (hb hby at_21) rfl) ?_
    show own_End p e below P (s₁.setTop (mkF m 22 #[.val (.int p0), .val (.int p1), .val (.int (1 : Int32)), .unset, .unset, .unset] [(.int ((p0 &&& (255 : Int32)).toUInt32.toUInt16.toUInt32.toInt32))]))
    refine own_st (fun _ => XS.goto X0.here hx rfl (pc0 := 22) (pc' := 27) rfl (hb hby at_22) (by decide) (by decide)) ?_
    show own_End p e below P (s₁.setTop (mkF m 27 #[.val (.int p0), .val (.int p1), .val (.int (1 : Int32)), .unset, .unset, .unset] [(.int ((p0 &&& (255 : Int32)).toUInt32.toUInt16.toUInt32.toInt32))]))
    refine own_st (fun _ => XS.istoreN X0.here hx rfl (hb hby at_27) rfl (l' := #[.val (.int p0), .val (.int p1), .val (.int (1 : Int32)), .val (.int ((p0 &&& (255 : Int32)).toUInt32.toUInt16.toUInt32.toInt32)), .unset, .unset]) rfl) ?_
    show own_End p e below P (s₁.setTop (mkF m 28 #[.val (.int p0), .val (.int p1), .val (.int (1 : Int32)), .val (.int ((p0 &&& (255 : Int32)).toUInt32.toUInt16.toUInt32.toInt32)), .unset, .unset] []))
    refine own_st (fun _ => XS.iloadN X0.here hx rfl (hb hby at_28) rfl) ?_
    show own_End p e below P (s₁.setTop (mkF m 29 #[.val (.int p0), .val (.int p1), .val (.int (1 : Int32)), .val (.int ((p0 &&& (255 : Int32)).toUInt32.toUInt16.toUInt32.toInt32)), .unset, .unset] [(.int ((p0 &&& (255 : Int32)).toUInt32.toUInt16.toUInt32.toInt32))]))
    refine own_st (fun _ => XS.istore X0.here hx rfl (hb hby at_29) rfl (l' := #[.val (.int p0), .val (.int p1), .val (.int (1 : Int32)), .val (.int ((p0 &&& (255 : Int32)).toUInt32.toUInt16.toUInt32.toInt32)), .val (.int ((p0 &&& (255 : Int32)).toUInt32.toUInt16.toUInt32.toInt32)), .unset]) rfl) ?_
    show own_End p e below P (s₁.setTop (mkF m 31 #[.val (.int p0), .val (.int p1), .val (.int (1 : Int32)), .val (.int ((p0 &&& (255 : Int32)).toUInt32.toUInt16.toUInt32.toInt32)), .val (.int ((p0 &&& (255 : Int32)).toUInt32.toUInt16.toUInt32.toInt32)), .unset] []))
    refine own_st (fun _ => XS.iload X0.here hx rfl (hb hby at_31) rfl) ?_
    show own_End p e below P (s₁.setTop (mkF m 33 #[.val (.int p0), .val (.int p1), .val (.int (1 : Int32)), .val (.int ((p0 &&& (255 : Int32)).toUInt32.toUInt16.toUInt32.toInt32)), .val (.int ((p0 &&& (255 : Int32)).toUInt32.toUInt16.toUInt32.toInt32)), .unset] [(.int ((p0 &&& (255 : Int32)).toUInt32.toUInt16.toUInt32.toInt32))]))
    refine own_st (fun _ => XS.sipush X0.here hx rfl (hb hby at_33)) ?_
    show own_End p e below P (s₁.setTop (mkF m 36 #[.val (.int p0), .val (.int p1), .val (.int (1 : Int32)), .val (.int ((p0 &&& (255 : Int32)).toUInt32.toUInt16.toUInt32.toInt32)), .val (.int ((p0 &&& (255 : Int32)).toUInt32.toUInt16.toUInt32.toInt32)), .unset] [(.int (255 : Int32)), (.int ((p0 &&& (255 : Int32)).toUInt32.toUInt16.toUInt32.toInt32))]))
    have J18 : ∀ v17 : Int32, v17 = (if (255 : Int32) < ((p0 &&& (255 : Int32)).toUInt32.toUInt16.toUInt32.toInt32) then (0 : Int32) else (if ((p0 &&& (255 : Int32)).toUInt32.toUInt16.toUInt32.toInt32) = (127 : Int32) then (0 : Int32) else (if ((p0 &&& (255 : Int32)).toUInt32.toUInt16.toUInt32.toInt32) < (32 : Int32) then (if ((p0 &&& (255 : Int32)).toUInt32.toUInt16.toUInt32.toInt32) = (9 : Int32) then (1 : Int32) else (0 : Int32)) else (1 : Int32)))) → own_End p e below P (s₁.setTop (mkF m 65 #[.val (.int p0), .val (.int p1), .val (.int (1 : Int32)), .val (.int ((p0 &&& (255 : Int32)).toUInt32.toUInt16.toUInt32.toInt32)), .val (.int ((p0 &&& (255 : Int32)).toUInt32.toUInt16.toUInt32.toInt32)), .unset] [(.int v17)])) := by
      intro v17 e_v17
      refine own_st (fun _ => XS.istore X0.here hx rfl (hb hby at_65) rfl (l' := #[.val (.int p0), .val (.int p1), .val (.int (1 : Int32)), .val (.int ((p0 &&& (255 : Int32)).toUInt32.toUInt16.toUInt32.toInt32)), .val (.int ((p0 &&& (255 : Int32)).toUInt32.toUInt16.toUInt32.toInt32)), .val (.int v17)]) rfl) ?_
      show own_End p e below P (s₁.setTop (mkF m 67 #[.val (.int p0), .val (.int p1), .val (.int (1 : Int32)), .val (.int ((p0 &&& (255 : Int32)).toUInt32.toUInt16.toUInt32.toInt32)), .val (.int ((p0 &&& (255 : Int32)).toUInt32.toUInt16.toUInt32.toInt32)), .val (.int v17)] []))
      refine own_st (fun _ => XS.iloadN X0.here hx rfl (hb hby at_67) rfl) ?_
      show own_End p e below P (s₁.setTop (mkF m 68 #[.val (.int p0), .val (.int p1), .val (.int (1 : Int32)), .val (.int ((p0 &&& (255 : Int32)).toUInt32.toUInt16.toUInt32.toInt32)), .val (.int ((p0 &&& (255 : Int32)).toUInt32.toUInt16.toUInt32.toInt32)), .val (.int v17)] [(.int ((p0 &&& (255 : Int32)).toUInt32.toUInt16.toUInt32.toInt32))]))
      refine own_callS X0 hx hZ (y := (⟨"com/example/holdfast/holdfast/internal/HttpSyntax", "isFieldValueChar", "(C)Z"⟩ : MethodName)) hown (hw _ (List.mem_of_getElem? (i := 0) rfl)) (hw _ (List.mem_of_getElem? (i := 1) rfl)) (hw _ (List.mem_of_getElem? (i := 2) rfl)) (hw _ (List.mem_of_getElem? (i := 3) rfl)) (by decide) (own_m1 l Z a0 hw [] ((p0 &&& (255 : Int32)).toUInt32.toUInt16.toUInt32.toInt32)  h0 n0 Z0 ) 0 (by decide) (by decide) e0 (by decide) (by decide) (g := (mkF m 68 #[.val (.int p0), .val (.int p1), .val (.int (1 : Int32)), .val (.int ((p0 &&& (255 : Int32)).toUInt32.toUInt16.toUInt32.toInt32)), .val (.int ((p0 &&& (255 : Int32)).toUInt32.toUInt16.toUInt32.toInt32)), .val (.int v17)] [(.int ((p0 &&& (255 : Int32)).toUInt32.toUInt16.toUInt32.toInt32))])) rfl (by rw [hml']; rfl) (argsL := [(.int ((p0 &&& (255 : Int32)).toUInt32.toUInt16.toUInt32.toInt32))]) (rest := []) rfl (lenOf own_pd_C_Z_238 rfl) rfl (by show 2 * 0 + _ ≤ _; exact Nat.le_of_eq rfl) (hb hby at_68) (fun r19 T19 L19 X19 hQ19 => ?_)
      obtain ⟨rfl, Nq19, eq19⟩ := hQ19
      have N19 := Fr.app N0 Nq19
      show own_End p e below P (T19.setTop (mkF m 71 #[.val (.int p0), .val (.int p1), .val (.int (1 : Int32)), .val (.int ((p0 &&& (255 : Int32)).toUInt32.toUInt16.toUInt32.toInt32)), .val (.int ((p0 &&& (255 : Int32)).toUInt32.toUInt16.toUInt32.toInt32)), .val (.int v17)] [(.int (own_f1 ((p0 &&& (255 : Int32)).toUInt32.toUInt16.toUInt32.toInt32)))]))
      refine own_st (fun _ => XS.iload X19.here hx rfl (hb hby at_71) rfl) ?_
      show own_End p e below P (T19.setTop (mkF m 73 #[.val (.int p0), .val (.int p1), .val (.int (1 : Int32)), .val (.int ((p0 &&& (255 : Int32)).toUInt32.toUInt16.toUInt32.toInt32)), .val (.int ((p0 &&& (255 : Int32)).toUInt32.toUInt16.toUInt32.toInt32)), .val (.int v17)] [(.int v17), (.int (own_f1 ((p0 &&& (255 : Int32)).toUInt32.toUInt16.toUInt32.toInt32)))]))
      have hc20 : (own_f1 ((p0 &&& (255 : Int32)).toUInt32.toUInt16.toUInt32.toInt32)) = v17 := by exact own_plain e_v17
      refine own_st (fun _ => XS.icmpNo X19.here hx rfl (hb hby at_73) rfl (teq hc20).2) ?_
      show own_End p e below P (T19.setTop (mkF m 76 #[.val (.int p0), .val (.int p1), .val (.int (1 : Int32)), .val (.int ((p0 &&& (255 : Int32)).toUInt32.toUInt16.toUInt32.toInt32)), .val (.int ((p0 &&& (255 : Int32)).toUInt32.toUInt16.toUInt32.toInt32)), .val (.int v17)] []))
      refine own_st (fun _ => XS.iconst X19.here hx rfl (hb hby at_76)) ?_
      show own_End p e below P (T19.setTop (mkF m 77 #[.val (.int p0), .val (.int p1), .val (.int (1 : Int32)), .val (.int ((p0 &&& (255 : Int32)).toUInt32.toUInt16.toUInt32.toInt32)), .val (.int ((p0 &&& (255 : Int32)).toUInt32.toUInt16.toUInt32.toInt32)), .val (.int v17)] [(.int (1 : Int32))]))
      refine own_st (fun _ => XS.goto X19.here hx rfl (pc0 := 77) (pc' := 81) rfl (hb hby at_77) (by decide) (by decide)) ?_
      show own_End p e below P (T19.setTop (mkF m 81 #[.val (.int p0), .val (.int p1), .val (.int (1 : Int32)), .val (.int ((p0 &&& (255 : Int32)).toUInt32.toUInt16.toUInt32.toInt32)), .val (.int ((p0 &&& (255 : Int32)).toUInt32.toUInt16.toUInt32.toInt32)), .val (.int v17)] [(.int (1 : Int32))]))
      exact own_retN X19 hx hlk hP (t := .boolean) (by simp) hrt (hb hby at_81) (by decide) (by decide) ⟨rfl, N19⟩
    by_cases hc13 : (255 : Int32) < ((p0 &&& (255 : Int32)).toUInt32.toUInt16.toUInt32.toInt32)
    · refine own_st (fun _ => XS.icmpYes X0.here hx rfl (pc0 := 36) (pc' := 64) rfl (hb hby at_36) rfl (tlt hc13).2.2.1 (by decide) (by decide)) ?_
      show own_End p e below P (s₁.setTop (mkF m 64 #[.val (.int p0), .val (.int p1), .val (.int (1 : Int32)), .val (.int ((p0 &&& (255 : Int32)).toUInt32.toUInt16.toUInt32.toInt32)), .val (.int ((p0 &&& (255 : Int32)).toUInt32.toUInt16.toUInt32.toInt32)), .unset] []))
      refine own_st (fun _ => XS.iconst X0.here hx rfl (hb hby at_64)) ?_
      show own_End p e below P (s₁.setTop (mkF m 65 #[.val (.int p0), .val (.int p1), .val (.int (1 : Int32)), .val (.int ((p0 &&& (255 : Int32)).toUInt32.toUInt16.toUInt32.toInt32)), .val (.int ((p0 &&& (255 : Int32)).toUInt32.toUInt16.toUInt32.toInt32)), .unset] [(.int (0 : Int32))]))
      exact J18 _ ((if_pos hc13).trans (rfl)).symm
    · refine own_st (fun _ => XS.icmpNo X0.here hx rfl (hb hby at_36) rfl (flt hc13).2.2.1) ?_
      show own_End p e below P (s₁.setTop (mkF m 39 #[.val (.int p0), .val (.int p1), .val (.int (1 : Int32)), .val (.int ((p0 &&& (255 : Int32)).toUInt32.toUInt16.toUInt32.toInt32)), .val (.int ((p0 &&& (255 : Int32)).toUInt32.toUInt16.toUInt32.toInt32)), .unset] []))
      refine own_st (fun _ => XS.iload X0.here hx rfl (hb hby at_39) rfl) ?_
      show own_End p e below P (s₁.setTop (mkF m 41 #[.val (.int p0), .val (.int p1), .val (.int (1 : Int32)), .val (.int ((p0 &&& (255 : Int32)).toUInt32.toUInt16.toUInt32.toInt32)), .val (.int ((p0 &&& (255 : Int32)).toUInt32.toUInt16.toUInt32.toInt32)), .unset] [(.int ((p0 &&& (255 : Int32)).toUInt32.toUInt16.toUInt32.toInt32))]))
      refine own_st (fun _ => XS.bipush X0.here hx rfl (hb hby at_41)) ?_
      show own_End p e below P (s₁.setTop (mkF m 43 #[.val (.int p0), .val (.int p1), .val (.int (1 : Int32)), .val (.int ((p0 &&& (255 : Int32)).toUInt32.toUInt16.toUInt32.toInt32)), .val (.int ((p0 &&& (255 : Int32)).toUInt32.toUInt16.toUInt32.toInt32)), .unset] [(.int (127 : Int32)), (.int ((p0 &&& (255 : Int32)).toUInt32.toUInt16.toUInt32.toInt32))]))
      by_cases hc21 : ((p0 &&& (255 : Int32)).toUInt32.toUInt16.toUInt32.toInt32) = (127 : Int32)
      · refine own_st (fun _ => XS.icmpYes X0.here hx rfl (pc0 := 43) (pc' := 64) rfl (hb hby at_43) rfl (teq hc21).1 (by decide) (by decide)) ?_
        show own_End p e below P (s₁.setTop (mkF m 64 #[.val (.int p0), .val (.int p1), .val (.int (1 : Int32)), .val (.int ((p0 &&& (255 : Int32)).toUInt32.toUInt16.toUInt32.toInt32)), .val (.int ((p0 &&& (255 : Int32)).toUInt32.toUInt16.toUInt32.toInt32)), .unset] []))
        refine own_st (fun _ => XS.iconst X0.here hx rfl (hb hby at_64)) ?_
        show own_End p e below P (s₁.setTop (mkF m 65 #[.val (.int p0), .val (.int p1), .val (.int (1 : Int32)), .val (.int ((p0 &&& (255 : Int32)).toUInt32.toUInt16.toUInt32.toInt32)), .val (.int ((p0 &&& (255 : Int32)).toUInt32.toUInt16.toUInt32.toInt32)), .unset] [(.int (0 : Int32))]))
        exact J18 _ ((if_neg hc13).trans ((if_pos hc21).trans (rfl))).symm
      · refine own_st (fun _ => XS.icmpNo X0.here hx rfl (hb hby at_43) rfl (feq hc21).1) ?_
        show own_End p e below P (s₁.setTop (mkF m 46 #[.val (.int p0), .val (.int p1), .val (.int (1 : Int32)), .val (.int ((p0 &&& (255 : Int32)).toUInt32.toUInt16.toUInt32.toInt32)), .val (.int ((p0 &&& (255 : Int32)).toUInt32.toUInt16.toUInt32.toInt32)), .unset] []))
        refine own_st (fun _ => XS.iload X0.here hx rfl (hb hby at_46) rfl) ?_
        show own_End p e below P (s₁.setTop (mkF m 48 #[.val (.int p0), .val (.int p1), .val (.int (1 : Int32)), .val (.int ((p0 &&& (255 : Int32)).toUInt32.toUInt16.toUInt32.toInt32)), .val (.int ((p0 &&& (255 : Int32)).toUInt32.toUInt16.toUInt32.toInt32)), .unset] [(.int ((p0 &&& (255 : Int32)).toUInt32.toUInt16.toUInt32.toInt32))]))
        refine own_st (fun _ => XS.bipush X0.here hx rfl (hb hby at_48)) ?_
        show own_End p e below P (s₁.setTop (mkF m 50 #[.val (.int p0), .val (.int p1), .val (.int (1 : Int32)), .val (.int ((p0 &&& (255 : Int32)).toUInt32.toUInt16.toUInt32.toInt32)), .val (.int ((p0 &&& (255 : Int32)).toUInt32.toUInt16.toUInt32.toInt32)), .unset] [(.int (32 : Int32)), (.int ((p0 &&& (255 : Int32)).toUInt32.toUInt16.toUInt32.toInt32))]))
        by_cases hc22 : ((p0 &&& (255 : Int32)).toUInt32.toUInt16.toUInt32.toInt32) < (32 : Int32)
        · refine own_st (fun _ => XS.icmpNo X0.here hx rfl (hb hby at_50) rfl (tlt hc22).2.1) ?_
          show own_End p e below P (s₁.setTop (mkF m 53 #[.val (.int p0), .val (.int p1), .val (.int (1 : Int32)), .val (.int ((p0 &&& (255 : Int32)).toUInt32.toUInt16.toUInt32.toInt32)), .val (.int ((p0 &&& (255 : Int32)).toUInt32.toUInt16.toUInt32.toInt32)), .unset] []))
          refine own_st (fun _ => XS.iload X0.here hx rfl (hb hby at_53) rfl) ?_
          show own_End p e below P (s₁.setTop (mkF m 55 #[.val (.int p0), .val (.int p1), .val (.int (1 : Int32)), .val (.int ((p0 &&& (255 : Int32)).toUInt32.toUInt16.toUInt32.toInt32)), .val (.int ((p0 &&& (255 : Int32)).toUInt32.toUInt16.toUInt32.toInt32)), .unset] [(.int ((p0 &&& (255 : Int32)).toUInt32.toUInt16.toUInt32.toInt32))]))
          refine own_st (fun _ => XS.bipush X0.here hx rfl (hb hby at_55)) ?_
          show own_End p e below P (s₁.setTop (mkF m 57 #[.val (.int p0), .val (.int p1), .val (.int (1 : Int32)), .val (.int ((p0 &&& (255 : Int32)).toUInt32.toUInt16.toUInt32.toInt32)), .val (.int ((p0 &&& (255 : Int32)).toUInt32.toUInt16.toUInt32.toInt32)), .unset] [(.int (9 : Int32)), (.int ((p0 &&& (255 : Int32)).toUInt32.toUInt16.toUInt32.toInt32))]))
          by_cases hc23 : ((p0 &&& (255 : Int32)).toUInt32.toUInt16.toUInt32.toInt32) = (9 : Int32)
          · refine own_st (fun _ => XS.icmpNo X0.here hx rfl (hb hby at_57) rfl (teq hc23).2) ?_
            show own_End p e below P (s₁.setTop (mkF m 60 #[.val (.int p0), .val (.int p1), .val (.int (1 : Int32)), .val (.int ((p0 &&& (255 : Int32)).toUInt32.toUInt16.toUInt32.toInt32)), .val (.int ((p0 &&& (255 : Int32)).toUInt32.toUInt16.toUInt32.toInt32)), .unset] []))
            refine own_st (fun _ => XS.iconst X0.here hx rfl (hb hby at_60)) ?_
            show own_End p e below P (s₁.setTop (mkF m 61 #[.val (.int p0), .val (.int p1), .val (.int (1 : Int32)), .val (.int ((p0 &&& (255 : Int32)).toUInt32.toUInt16.toUInt32.toInt32)), .val (.int ((p0 &&& (255 : Int32)).toUInt32.toUInt16.toUInt32.toInt32)), .unset] [(.int (1 : Int32))]))
            refine own_st (fun _ => XS.goto X0.here hx rfl (pc0 := 61) (pc' := 65) rfl (hb hby at_61) (by decide) (by decide)) ?_
            show own_End p e below P (s₁.setTop (mkF m 65 #[.val (.int p0), .val (.int p1), .val (.int (1 : Int32)), .val (.int ((p0 &&& (255 : Int32)).toUInt32.toUInt16.toUInt32.toInt32)), .val (.int ((p0 &&& (255 : Int32)).toUInt32.toUInt16.toUInt32.toInt32)), .unset] [(.int (1 : Int32))]))
            exact J18 _ ((if_neg hc13).trans ((if_neg hc21).trans ((if_pos hc22).trans ((if_pos hc23).trans (rfl))))).symm
          · refine own_st (fun _ => XS.icmpYes X0.here hx rfl (pc0 := 57) (pc' := 64) rfl (hb hby at_57) rfl (feq hc23).2 (by decide) (by decide)) ?_
            show own_End p e below P (s₁.setTop (mkF m 64 #[.val (.int p0), .val (.int p1), .val (.int (1 : Int32)), .val (.int ((p0 &&& (255 : Int32)).toUInt32.toUInt16.toUInt32.toInt32)), .val (.int ((p0 &&& (255 : Int32)).toUInt32.toUInt16.toUInt32.toInt32)), .unset] []))
            refine own_st (fun _ => XS.iconst X0.here hx rfl (hb hby at_64)) ?_
            show own_End p e below P (s₁.setTop (mkF m 65 #[.val (.int p0), .val (.int p1), .val (.int (1 : Int32)), .val (.int ((p0 &&& (255 : Int32)).toUInt32.toUInt16.toUInt32.toInt32)), .val (.int ((p0 &&& (255 : Int32)).toUInt32.toUInt16.toUInt32.toInt32)), .unset] [(.int (0 : Int32))]))
            exact J18 _ ((if_neg hc13).trans ((if_neg hc21).trans ((if_pos hc22).trans ((if_neg hc23).trans (rfl))))).symm
        · refine own_st (fun _ => XS.icmpYes X0.here hx rfl (pc0 := 50) (pc' := 60) rfl (hb hby at_50) rfl (flt hc22).2.1 (by decide) (by decide)) ?_
          show own_End p e below P (s₁.setTop (mkF m 60 #[.val (.int p0), .val (.int p1), .val (.int (1 : Int32)), .val (.int ((p0 &&& (255 : Int32)).toUInt32.toUInt16.toUInt32.toInt32)), .val (.int ((p0 &&& (255 : Int32)).toUInt32.toUInt16.toUInt32.toInt32)), .unset] []))
          refine own_st (fun _ => XS.iconst X0.here hx rfl (hb hby at_60)) ?_
          show own_End p e below P (s₁.setTop (mkF m 61 #[.val (.int p0), .val (.int p1), .val (.int (1 : Int32)), .val (.int ((p0 &&& (255 : Int32)).toUInt32.toUInt16.toUInt32.toInt32)), .val (.int ((p0 &&& (255 : Int32)).toUInt32.toUInt16.toUInt32.toInt32)), .unset] [(.int (1 : Int32))]))
          refine own_st (fun _ => XS.goto X0.here hx rfl (pc0 := 61) (pc' := 65) rfl (hb hby at_61) (by decide) (by decide)) ?_
          show own_End p e below P (s₁.setTop (mkF m 65 #[.val (.int p0), .val (.int p1), .val (.int (1 : Int32)), .val (.int ((p0 &&& (255 : Int32)).toUInt32.toUInt16.toUInt32.toInt32)), .val (.int ((p0 &&& (255 : Int32)).toUInt32.toUInt16.toUInt32.toInt32)), .unset] [(.int (1 : Int32))]))
          exact J18 _ ((if_neg hc13).trans ((if_neg hc21).trans ((if_neg hc22).trans (rfl)))).symm
set_option maxRecDepth 65536 in
set_option maxHeartbeats 40000000 in
theorem comes_1 {Post : Tables → Env → Array Value → State → Outcome → State → Prop} (hpost : ∀ tb e args s v u, (limb_1_1.after args s (.returned v) u = true ∧ limb_1_2.after args s (.returned v) u = true ∧ True) → FrameEnd s (.returned v) u (Jvm.fieldLocs frame_1_writes args s ++ Jvm.arrayLocs frame_1_arrays args s ++ Jvm.staticLocs frame_1_statics s) 0 0 → Post tb e args s (.returned v) u) :
    ArmFor flags0 classFile x code maxLocals ret World_1 tables_1 room_1 Calls_1 rest_1 Pre_1 Post := by
  intro l hfl _ _ p e ha hc hk s m args below hf hA hF happ hP
  obtain ⟨hcalls, hrest, hpre⟩ := hP
  obtain ⟨-, -, -, hnamed, -, -, -, hat⟩ := (Spec.applies_iff hf).mp happ
  obtain ⟨hg, hn⟩ := and_e (Cond.before_iff.mp (show (Jvm.Cond.and given_1 narrow_1).before args s = true from hpre))
  obtain ⟨k1, l1⟩ := and_e hg
  obtain ⟨k2, l2⟩ := and_e l1
  obtain ⟨w0, w1, rfl⟩ : ∃ w0 w1 : Value, args = #[w0, w1] := by
    have hs : args.size = 2 := by simpa [Cond.value, given_1] using k1
    obtain ⟨L⟩ := args
    match L, hs with
    | [w0, w1], _ => exact ⟨w0, w1, rfl⟩
  have hw := fun d (hd : d ∈ tables_1) => atoms_spec (ws := Jvm.Cond.code x code maxLocals ret :: tables_1) hat d (List.mem_cons_of_mem _ hd)
  have hfit : Fit s := fun {y c} hc i hi => by
    obtain ⟨ha, rfl⟩ := Array.getElem?_eq_some_iff.mp hc
    have q := List.all_eq_true.mp ((Array.all_eq_true_iff_forall_mem.mp hF) _ (Array.getElem_mem ha)) i (List.mem_range.mpr hi)
    simpa [Array.getElem?_eq_getElem hi] using q
  obtain ⟨i0, ei0⟩ := is_v k2
  obtain rfl : w0 = (.int i0) := Option.some.inj ei0
  obtain ⟨i1, ei1⟩ := is_v l2
  obtain rfl : w1 = (.int i1) := Option.some.inj ei1
  obtain ⟨n, o, h1, h2, h3, _, L, rfl, ⟨rfl, N⟩, hq⟩ := own_m0 l s _ hw tables_1 i0 i1  s.heap s.heap.size (Nat.le_refl _)  p e ha hc hk s m _ below hf ((Spec.applies_iff_loose hf).mp happ).1 ⟨rfl, State.Warmed39.refl s, rfl⟩ trivial
  refine ⟨n, _, h1, h2, h3, hpost _ _ _ _ _ _ ⟨Cond.after_iff.mpr rfl, Cond.after_iff.mpr (eq_i res_at (Term.int_eval (1)) rfl), trivial⟩ ⟨hq.1, hq.2.1, (hq.2.2.sift fun y hy => Or.inr (N y hy)).mono (by decide) (by decide)⟩⟩
theorem main_1_1 : Claimed_1_1 := comes_1 fun _ _ _ _ _ _ h hF => ⟨h.1, hF⟩
theorem main_1_2 : Claimed_1_2 := comes_1 fun _ _ _ _ _ _ h hF => ⟨h.2.1, hF⟩
end Jvm.Pilot.@@N@@
namespace Jvm.Pilot.@@N@@
open Jvm Jvm.ClassFile Sem Op Lib Jvm.Free Jvm.Stand Jvm.Pilot.@@N@@.Jvm.D
/-! MADE BY PROGRAM (witnessworld.py) out of the Statement's table words and the real class files: 9 classes; the members and pool entries that the words name. The judged class is class 1, her method 1. -/
namespace start1
open Jvm.ClassFile
def u (s : String) : CpInfo := .utf8 (stringToUtf16 s)
/-- a pool by its gaps: so many unusable entries, then the entry; so many at the end -/
def gap : Nat → List CpInfo → List CpInfo
  | 0, r => r
  | n + 1, r => .unusable :: gap n r
def poolList (es : List (Nat × CpInfo)) (last : Nat) : List CpInfo := es.foldr (fun e r => gap e.1 (e.2 :: r)) (gap last [])
def pool (es : List (Nat × CpInfo)) (last : Nat) : Array CpInfo := ⟨poolList es last⟩
def fileOf (pool : Array CpInfo) (this : Nat) (attrs : Array Attribute := #[]) (ms : Array MethodInfo := #[]) (fl : Nat := 33) (sup : Nat := 0) (ifs : Array Nat := #[]) (fds : Array FieldInfo := #[]) : ClassFile where
  minorVersion := 0
  majorVersion := 65
  constantPool := pool
  accessFlags := fl
  thisClass := this
  superClass := sup
  interfaces := ifs
  fields := fds
  methods := ms
  attributes := attrs
def plain (name : String) (sup : Option ClassId) : Class where
  name := name
  kind := .ordinary
  loader := none
  accessFlags := 33
  super := sup
  interfaces := #[]
  cf := none
  fields := #[]
  methods := #[]
  instanceTypes := #[]
  staticTypes := #[]
  resolved := #[]
  callSites := []
  init := .initialized
  statics := none
  mirror := none

def pool0 : Array CpInfo := pool [(5, u "<init>"), (0, u "()V"), (1, .class_ 10), (1, u "java/lang/Object")] 113

def k0m0 : Method := { name := "<init>", desc := "()V", sig := { parameters := [], returnType := none }, accessFlags := 1, code := none }
/-- java/lang/Object -/
def k0 : Class := { plain "java/lang/Object" none with
  accessFlags := 33
  interfaces := #[]
  cf := some (fileOf pool0 8 #[] #[{ accessFlags := 1, nameIndex := 5, descriptorIndex := 6, attributes := #[] }] 33 0 #[] #[])
  fields := #[]
  methods := #[k0m0]
  instanceTypes := #[]
  staticTypes := #[]
  resolved := Array.replicate 124 none
  statics := none }

def pool1 : Array CpInfo := pool [(2, .class_ 4), (1, u "java/lang/Object"), (0, u "<init>"), (0, u "()V"), (0, .methodref 8 9), (0, .class_ 10), (0, .nameAndType 11 12), (0, u "com/example/holdfast/holdfast/internal/HttpSyntax"), (0, u "isFieldValueChar"), (0, u "(C)Z"), (0, .class_ 14), (0, u "com/example/holdfast/holdfast/internal/HttpSyntaxIsFieldValueCharPinLaw"), (2, u "law"), (0, u "(II)Z")] 3

def k1m0 : Method := { name := "<init>", desc := "()V", sig := { parameters := [], returnType := none }, accessFlags := 2, code := none }
def k1c1 : Code := { maxStack := 2, maxLocals := 6, code := code, exceptionTable := #[], attributes := #[] }
def k1m1 : Method := { name := "law", desc := "(II)Z", sig := { parameters := [.int, .int], returnType := some .boolean }, accessFlags := 9, code := some k1c1 }
/-- com/example/holdfast/holdfast/internal/HttpSyntaxIsFieldValueCharPinLaw -/
def k1 : Class := { plain "com/example/holdfast/holdfast/internal/HttpSyntaxIsFieldValueCharPinLaw" (some 0) with
  accessFlags := 49
  interfaces := #[]
  cf := some (fileOf pool1 13 #[] #[{ accessFlags := 2, nameIndex := 5, descriptorIndex := 6, attributes := #[] }, { accessFlags := 9, nameIndex := 17, descriptorIndex := 18, attributes := #[] }] 49 2 #[] #[])
  fields := #[]
  methods := #[k1m0, k1m1]
  instanceTypes := #[]
  staticTypes := #[]
  resolved := Array.replicate 22 none
  statics := none }

def pool2 : Array CpInfo := pool [(2, .class_ 4), (1, u "java/lang/Object"), (0, u "<init>"), (0, u "()V"), (0, .class_ 8), (0, u "com/example/holdfast/holdfast/internal/HttpSyntax"), (19, u "(C)Z"), (6, u "isFieldValueChar"), (73, u "TOKEN_SYMBOLS"), (0, u "Ljava/lang/String;")] 25

def k2m0 : Method := { name := "<init>", desc := "()V", sig := { parameters := [], returnType := none }, accessFlags := 2, code := none }
def k2c1 : Code := { maxStack := 2, maxLocals := 1, code := prog_26_method_3_code, exceptionTable := #[], attributes := #[] }
def k2m1 : Method := { name := "isFieldValueChar", desc := "(C)Z", sig := { parameters := [.char], returnType := some .boolean }, accessFlags := 9, code := some k2c1 }
/-- com/example/holdfast/holdfast/internal/HttpSyntax -/
def k2 : Class := { plain "com/example/holdfast/holdfast/internal/HttpSyntax" (some 0) with
  accessFlags := 49
  interfaces := #[]
  cf := some (fileOf pool2 7 #[] #[{ accessFlags := 2, nameIndex := 5, descriptorIndex := 6, attributes := #[] }, { accessFlags := 9, nameIndex := 35, descriptorIndex := 28, attributes := #[] }] 49 2 #[] #[{ accessFlags := 26, nameIndex := 109, descriptorIndex := 110, attributes := #[] }])
  fields := #[{ name := "TOKEN_SYMBOLS", type := (.object "java/lang/String"), accessFlags := 26, slot := 0, constantValue := 0 }]
  methods := #[k2m0, k2m1]
  instanceTypes := #[]
  staticTypes := #[(.object "java/lang/String")]
  resolved := Array.replicate 136 none
  statics := none }

def pool3 : Array CpInfo := pool [(1, u "java/lang/Cloneable"), (0, .class_ 1), (0, u "java/lang/Object"), (0, .class_ 3)] 3

/-- java/lang/Cloneable -/
def k3 : Class := { plain "java/lang/Cloneable" (some 0) with
  accessFlags := 1537
  interfaces := #[]
  cf := some (fileOf pool3 2 #[] #[] 1537 4 #[] #[])
  fields := #[]
  methods := #[]
  instanceTypes := #[]
  staticTypes := #[]
  resolved := Array.replicate 8 none
  statics := none }

def pool4 : Array CpInfo := pool [(1, u "java/io/Serializable"), (0, .class_ 1), (0, u "java/lang/Object"), (0, .class_ 3)] 3

/-- java/io/Serializable -/
def k4 : Class := { plain "java/io/Serializable" (some 0) with
  accessFlags := 1537
  interfaces := #[]
  cf := some (fileOf pool4 2 #[] #[] 1537 4 #[] #[])
  fields := #[]
  methods := #[]
  instanceTypes := #[]
  staticTypes := #[]
  resolved := Array.replicate 8 none
  statics := none }

/-- the primitive byte -/
def k5 : Class := { plain "byte" none with kind := .primitive 'B', accessFlags := 0x411 }
/-- [B -/
def k6 : Class := { plain "[B" (some 0) with kind := .array 5 .byte, interfaces := #[3, 4], accessFlags := 1041 }

/-- the primitive int -/
def k7 : Class := { plain "int" none with kind := .primitive 'I', accessFlags := 0x411 }
/-- [I -/
def k8 : Class := { plain "[I" (some 0) with kind := .array 7 .int, interfaces := #[3, 4], accessFlags := 1041 }

def heap : Heap := #[]
def classes : Array Class := #[k0, k1, k2, k3, k4, k5, k6, k7, k8]
def interned : List (Array UInt16 × Addr) := []
def slotsUsed : Nat := 0
def theMethod : MethodId := ⟨1, 1⟩
def args0 : Array Value := #[.int 5, .int 0]
def aboutOver (below : List Frame) : State where
  vm := { classes := classes, interned := interned.toArray }
  heap := heap
  slotsUsed := slotsUsed
  threads := #[{ frames := .invoking theMethod args0 :: below }]
def below0 : List Frame := [.native { method := ⟨0, 0⟩, args := #[] }]
def about1 : State := aboutOver below0
def p0 : Program := .bare "" "" ""
def e0 : Env := launch0.env 0 0 0
theorem w_frames : about1.frames = Frame.invoking theMethod args0 :: below0 := rfl
set_option maxRecDepth 65536 in
theorem w_args : argsFit about1.vm theMethod args0 = true := by decide +kernel
set_option maxRecDepth 65536 in
theorem w_heap : heapFits about1 = true := by decide +kernel
set_option maxRecDepth 65536 in
theorem w_runnable : about1.curStatus? = some .runnable := by decide +kernel
set_option maxRecDepth 65536 in
theorem w_alone : about1.alone = true := by decide +kernel
set_option maxRecDepth 65536 in
theorem w_named : about1.methodNamed? x = some theMethod := by decide +kernel
set_option maxRecDepth 65536 in
theorem w_hears : about1.hears theMethod below0 = true := by decide +kernel
set_option maxRecDepth 65536 in
theorem w_ripe : about1.ripe theMethod args0 below0 = true := by decide +kernel
theorem w_running : about1.status = .running := rfl
set_option maxRecDepth 65536 in
theorem w_room : about1.hasRoom e0.platform room_1 = true :=
  launch0.hasRoom_least _ room_1 (by decide +kernel) (by decide +kernel) (by decide +kernel) (by decide +kernel) (by decide +kernel) (by decide +kernel)
theorem allAtoms_all (ts : List Jvm.Cond) (a : Array Jvm.Value) (st : Jvm.State) : (allAtoms ts).before a st = ts.all (fun c => c.before a st) := by
  induction ts with
  | nil => rfl
  | cons c t ih =>
    show (Jvm.Cond.and c (allAtoms t)).before a st = _
    rw [Jvm.Cond.before_and, ih, List.all_cons]
def words1 : List Jvm.Cond := Jvm.Cond.code x code maxLocals ret :: tables_1
/-- a 'code' word, met by the world's own term for the bytes: nothing is compared byte by byte -/
theorem code_word {y : MethodName} {bytes : ByteArray} {mx : Nat} {rt : Option FieldType} {a : Array Value} {s : State} {m : MethodId} {meth : Method} {c : Code} (h1 : s.methodNamed? y = some m) (h2 : s.vm.method? m = some meth) (h3 : meth.code = some c) (h4 : c.code = bytes)
    (h5 : (c.maxLocals == mx && c.exceptionTable.isEmpty && decide (c.maxStack ≤ mostOperands) && decide (meth.sig.returnType = rt) && !meth.locks && decide (parseMethodDescriptor y.desc = some meth.sig)) = true) : (Jvm.Cond.code y bytes mx rt).before a s = true := by
  simp only [Bool.and_eq_true, beq_iff_eq, Bool.not_eq_true', decide_eq_true_eq] at h5
  obtain ⟨⟨⟨⟨⟨g1, g2⟩, g3⟩, g4⟩, g5⟩, g6⟩ := h5
  simp [Cond.before, Cond.holds, Cond.value, h1, h2, h3, h4, g1, g2, g3, g4, g5, g6]
def isCode : Jvm.Cond → Bool
  | .code _ _ _ _ => true
  | _ => false
theorem all_split {L : List Jvm.Cond} {P : Jvm.Cond → Bool} (h1 : L.all (fun c => isCode c || P c) = true) (h2 : ∀ c ∈ L.filter isCode, P c = true) : L.all P = true := by
  refine List.all_eq_true.mpr fun c hc => ?_
  have h := List.all_eq_true.mp h1 c hc
  rcases Bool.eq_false_or_eq_true (isCode c) with hi | hi
  · exact h2 c (List.mem_filter.mpr ⟨hc, hi⟩)
  · simpa [hi] using h
set_option maxRecDepth 65536 in
theorem w_c0 : (Jvm.Cond.code x code maxLocals ret).before args0 about1 = true := code_word (m := ⟨1, 1⟩) (meth := k1m1) (c := k1c1) (by decide +kernel) rfl rfl rfl (by decide +kernel)
set_option maxRecDepth 65536 in
theorem w_c1 : (Jvm.Cond.code ({ cls := "com/example/holdfast/holdfast/internal/HttpSyntax", name := "isFieldValueChar", desc := "(C)Z" } : Jvm.MethodName) prog_26_method_3_code (1 : Nat) (Option.some Jvm.ClassFile.FieldType.boolean)).before args0 about1 = true := code_word (m := ⟨2, 1⟩) (meth := k2m1) (c := k2c1) (by decide +kernel) rfl rfl rfl (by decide +kernel)
def codes1 : List Jvm.Cond := [Jvm.Cond.code x code maxLocals ret, Jvm.Cond.code ({ cls := "com/example/holdfast/holdfast/internal/HttpSyntax", name := "isFieldValueChar", desc := "(C)Z" } : Jvm.MethodName) prog_26_method_3_code (1 : Nat) (Option.some Jvm.ClassFile.FieldType.boolean)]
set_option maxRecDepth 65536 in
theorem codes_eq : words1.filter isCode = codes1 := rfl
theorem w_codes : ∀ c ∈ words1.filter isCode, c.before args0 about1 = true := by
  rw [codes_eq]
  intro c hc
  simp only [codes1, List.mem_cons, List.not_mem_nil, or_false] at hc
  rcases hc with rfl | rfl
  · exact w_c0
  · exact w_c1
set_option maxRecDepth 65536 in
theorem w_t1 : words1.all (fun c => isCode c || c.before args0 about1) = true := by decide +kernel
theorem w_tables : (allAtoms (Jvm.Cond.code x code maxLocals ret :: tables_1)).before args0 about1 = true := by
  rw [allAtoms_all]
  show words1.all (fun c => c.before args0 about1) = true
  refine all_split ?_ w_codes
  rw [w_t1]
set_option maxRecDepth 65536 in
theorem w_case : (Jvm.Cond.and given_1 narrow_1).before args0 about1 = true := by decide +kernel
theorem w_applies : (headSpec (Jvm.Cond.code x code maxLocals ret :: tables_1) room_1).applies x e0.platform about1 = true :=
  (Spec.applies_iff w_frames).mpr ⟨w_running, w_runnable, w_alone, w_named, w_hears, w_ripe, w_room, w_tables⟩
theorem atStart : AtStart classFile x code maxLocals ret World_1 tables_1 room_1 Calls_1 rest_1 Pre_1 launch0 p0 e0 about1 theMethod args0 below0 :=
  ⟨lists_1, trivial, launch0.admits_env _ _ _, launch0.least_env, fairChoices_fair.cas, fairChoices_fair.clock, w_frames, w_args, w_heap, w_applies, trivial, trivial, w_case⟩
end start1
theorem witness_1 : WitnessClaimed_1 := ⟨start1.p0, start1.e0, start1.about1, start1.theMethod, start1.args0, start1.below0, start1.atStart⟩
end Jvm.Pilot.@@N@@
