import JvmDerived
import JvmDerived.Pilot.@@N@@Statement
import JvmDerived.Pilot.@@N@@Code
set_option linter.unusedVariables false
set_option linter.unusedSimpArgs false
namespace Jvm.RoadKit
open Sem ClassFile Op Lib Jvm.Stand Jvm.Free Jvm.LawKit
section New
variable {p : Program} {l : Launch} {e : Env} {R : Room} {s : State} {m : MethodId} {args : Array Value} {below : List Frame} {meth : Method} {c : Code} {T : State} {locs : List Loc} {cells slots : Nat}
theorem retI (X : Stand p l e R s m args below meth c T locs cells slots) (hx : p.tables.exec = Jvm.exec) {pc : Nat} {Ls : Array Slot} {z : Int32} {rest : List Value} (hret : meth.sig.returnType = some .int) (hd : decode c.code pc = .ok (.ireturn, 1)) {fs : List Frame}
    (hl : ∀ (f : JFrame) (acts : List Action), f.method = m → f.locked = none → f.entered = [] → (doReturn e (T.setTop f) acts (some (.int z))).1 = T.setFrames fs) : Steps p.tables e below (T.setTop (mkF m pc Ls (.int z :: rest))) (T.setFrames fs) := by
  have hm' : T.vm.method? m = some meth := X.method'
  have hn : narrow .int (.int z) = .int z := rfl
  show Steps p.tables e below (T.setTop { method := m, pc := pc, locals := Ls, stack := _ :: rest, locked := none }) _
  jvm_step X.here [X.here.top, hx, hd, hm', hret, hn]
  first | (intro acts; rw [hl _ acts rfl rfl rfl]) | rw [hl _ _ rfl rfl rfl]
  exact Steps.refl _
end New
end Jvm.RoadKit
@@BLOCK:NumsL.lean.txt@@
namespace Jvm.Pilot.@@N@@
open Jvm Jvm.ClassFile Sem Op Lib Jvm.Free Jvm.Stand Jvm.LawKit Jvm.RoadKit Bundle Jvm.Pilot.@@N@@.Jvm.D
def own_End (p : Program) (e : Env) (below : List Frame) (P : Outcome → State → Prop) (S : State) : Prop :=
  ∃ s₂ o, Steps p.tables e below S s₂ ∧ s₂.status = .running ∧ Ended s₂ below o ∧ P o s₂
abbrev own_Met (l : Launch) (Z : State) (y : MethodName) (bytes : ByteArray) (maxL : Nat) (rt : Option FieldType) (ws : List Jvm.Cond) (rm : Room) (as' : Array Value) (h0 : Heap) (Q : Option Value → Heap → List Loc → Prop) : Prop :=
  MetFree l y (head1 (Jvm.Cond.code y bytes maxL rt :: ws) rm) (fun a U => a = as' ∧ Z.Warmed39 U.vm ∧ U.heap = h0) (fun _ _ _ _ _ => True) (fun _ U o U' => ∃ v L, o = .returned v ∧ Q v U'.heap L ∧ FrameEnd U o U' L rm.cells rm.slots)
def own_Ok (Q : Option Value → Heap → List Loc → Prop) (s : State) (kc ks : Nat) (P : Outcome → State → Prop) : Prop := ∀ v U L, Q v U.heap L → FrameEnd s (.returned v) U L kc ks → P (.returned v) U
section Own
variable {p : Program} {l : Launch} {e : Env} {R : Room} {s : State} {m : MethodId} {args : Array Value} {below : List Frame} {meth : Method} {c : Code} {T : State} {locs : List Loc} {cells slots : Nat} {Z : State} {a0 : Array Value} {h : Heap} {P : Outcome → State → Prop}
theorem own_st {S S' : State} (q : ∀ t, Steps p.tables e below S' t → Steps p.tables e below S t) (k : own_End p e below P S') : own_End p e below P S := by
  obtain ⟨a, b, c, d⟩ := k
  exact ⟨a, b, q _ c, d⟩
theorem own_tr {S S' : State} (q : Steps p.tables e below S S') (k : own_End p e below P S') : own_End p e below P S := own_st (fun _ r => q.trans r) k
theorem own_enter {y : MethodName} {bytes : ByteArray} {maxL : Nat} {rt : Option FieldType} {ws : List Jvm.Cond} {rm : Room} {as' : Array Value} {h0 : Heap} {Q : Option Value → Heap → List Loc → Prop} (hpl : plainFor y = true)
    (body : ∀ (p : Program) (e : Env) (s : State) (m : MethodId) (below : List Frame) (meth : Method) (c : Code) (s₁ : State) (P : Outcome → State → Prop), p.tables.exec = Jvm.exec → c.code = bytes → c.maxLocals = maxL → meth.sig.returnType = rt → meth.locks = false → s.vm.findClass y.cls = some m.cls → meth.name = y.name → Z.Warmed39 s.vm →
      Stand p l e rm s m as' below meth c s₁ [] 0 0 → s₁.heap = h0 → own_Ok Q s rm.cells rm.slots P → own_End p e below P (s₁.setTop (entryFrame m as' maxL))) :
    own_Met l Z y bytes maxL rt ws rm as' h0 Q := by
  refine MetFree.of_bodySF hpl hisR ?_
  intro p e s m args below meth c s₁ Bd hml0 hP hK
  obtain ⟨rfl, hZ, hh⟩ := hP
  exact body p e s m below meth c s₁ _ Bd.exec Bd.bytes hml0 Bd.returns Bd.notSynchronized (findClass_of_methodNamed Bd.named) (name_of_methodNamed Bd.named Bd.method).1 hZ (Stand.of_body Bd) (by rw [← hh, Bd.state]; rfl) (fun v U L q f => ⟨v, L, rfl, q, f⟩)
theorem own_cast {g g' : JFrame} (q : g = g') (k : own_End p e below P (T.setTop g')) : own_End p e below P (T.setTop g) := q ▸ k
theorem own_retI (X : Stand p l e R s m args below meth c T locs cells slots) (hx : p.tables.exec = Jvm.exec) (hlk : meth.locks = false) {kc ks : Nat} {Q : Option Value → Heap → List Loc → Prop} (hP : own_Ok Q s kc ks P)
    {pc : Nat} {Ls : Array Slot} {z : Int32} {rest : List Value} (hret : meth.sig.returnType = some .int) (hd : decode c.code pc = .ok (.ireturn, 1)) (h1 : cells ≤ kc) (h2 : slots ≤ ks) (hq : Q (some (.int z)) T.heap locs) : own_End p e below P (T.setTop (mkF m pc Ls (.int z :: rest))) := by
  obtain ⟨fs, hr, hrun, hended, hW, hsame⟩ := X.leave (v := some (.int z)) (fun h => by rw [hret] at h; cases h) hlk
  exact ⟨_, _, retI X hx hret hd hr, hrun, hended, hP _ _ locs hq ⟨⟨_, rfl⟩, hW, hsame.mono h1 h2⟩⟩
theorem own_retN (X : Stand p l e R s m args below meth c T locs cells slots) (hx : p.tables.exec = Jvm.exec) (hlk : meth.locks = false) {kc ks : Nat} {Q : Option Value → Heap → List Loc → Prop} (hP : own_Ok Q s kc ks P)
    {pc : Nat} {Ls : Array Slot} {z : Int32} {t : FieldType} {rest : List Value} (ht : t = .boolean ∨ t = .byte ∨ t = .char ∨ t = .short) (hret : meth.sig.returnType = some t) (hd : decode c.code pc = .ok (.ireturn, 1)) (h1 : cells ≤ kc) (h2 : slots ≤ ks) (hq : Q (some (.int (nar t z))) T.heap locs) : own_End p e below P (T.setTop (mkF m pc Ls (.int z :: rest))) := by
  obtain ⟨fs, hr, hrun, hended, hW, hsame⟩ := X.leave (v := some (.int (nar t z))) (fun h => by rw [hret] at h; cases h) hlk
  exact ⟨_, _, retN X hx hret ht hd hr, hrun, hended, hP _ _ locs hq ⟨⟨_, rfl⟩, hW, hsame.mono h1 h2⟩⟩
theorem own_retL (X : Stand p l e R s m args below meth c T locs cells slots) (hx : p.tables.exec = Jvm.exec) (hlk : meth.locks = false) {kc ks : Nat} {Q : Option Value → Heap → List Loc → Prop} (hP : own_Ok Q s kc ks P)
    {pc : Nat} {Ls : Array Slot} {z : Int64} {rest : List Value} (hret : meth.sig.returnType = some .long) (hd : decode c.code pc = .ok (.lreturn, 1)) (h1 : cells ≤ kc) (h2 : slots ≤ ks) (hq : Q (some (.long z)) T.heap locs) : own_End p e below P (T.setTop (mkF m pc Ls (.long z :: rest))) := by
  obtain ⟨fs, hr, hrun, hended, hW, hsame⟩ := X.leave (v := some (.long z)) (fun h => by rw [hret] at h; cases h) hlk
  exact ⟨_, _, retOut X hx hret rfl (Or.inr (Or.inl ⟨rfl, rfl, z, rfl⟩)) hd hr, hrun, hended, hP _ _ locs hq ⟨⟨_, rfl⟩, hW, hsame.mono h1 h2⟩⟩
theorem own_retR (X : Stand p l e R s m args below meth c T locs cells slots) (hx : p.tables.exec = Jvm.exec) (hlk : meth.locks = false) {kc ks : Nat} {Q : Option Value → Heap → List Loc → Prop} (hP : own_Ok Q s kc ks P)
    {pc : Nat} {Ls : Array Slot} {w : Value} {t : FieldType} {rest : List Value} (hw : w.isRef = true) (ht : t.isReference = true) (hret : meth.sig.returnType = some t) (hd : decode c.code pc = .ok (.areturn, 1)) (h1 : cells ≤ kc) (h2 : slots ≤ ks) (hq : Q (some w) T.heap locs) : own_End p e below P (T.setTop (mkF m pc Ls (w :: rest))) := by
  obtain ⟨fs, hr, hrun, hended, hW, hsame⟩ := X.leave (v := some w) (fun h => by rw [hret] at h; cases h) hlk
  have hn : narrow t w = w := by rcases ref_cases hw with rfl | ⟨a, rfl⟩ <;> cases t <;> rfl
  exact ⟨_, _, retOut X hx hret hn (Or.inr (Or.inr (Or.inr (Or.inr ⟨rfl, ht, hw⟩)))) hd hr, hrun, hended, hP _ _ locs hq ⟨⟨_, rfl⟩, hW, hsame.mono h1 h2⟩⟩
theorem own_retV (X : Stand p l e R s m args below meth c T locs cells slots) (hx : p.tables.exec = Jvm.exec) (hlk : meth.locks = false) {kc ks : Nat} {Q : Option Value → Heap → List Loc → Prop} (hP : own_Ok Q s kc ks P)
    {pc : Nat} {Ls : Array Slot} (hret : meth.sig.returnType = none) (hd : decode c.code pc = .ok (.return_, 1)) (h1 : cells ≤ kc) (h2 : slots ≤ ks) (hq : Q none T.heap locs) : own_End p e below P (T.setTop (mkF m pc Ls [])) := by
  obtain ⟨fs, hr, hrun, hended, hW, hsame⟩ := X.leave (v := none) (fun _ => rfl) hlk
  exact ⟨_, _, X.returnOut hx hret hd hr, hrun, hended, hP _ _ locs hq ⟨⟨_, rfl⟩, hW, hsame.mono h1 h2⟩⟩
theorem own_callS (X : Stand p l e R s m args below meth c T locs cells slots) (hx : p.tables.exec = Jvm.exec) (hZ : Z.Warmed39 s.vm) {own : String} {index : Nat} {y : MethodName} {bytes : ByteArray} {maxL : Nat} {rt : Option FieldType} {rm : Room} {as' : Array Value} {Q : Option Value → Heap → List Loc → Prop}
    (hown : s.vm.findClass own = some m.cls) (w1 : (Jvm.Cond.methodLink own index y).before a0 Z = true) (w2 : (Jvm.Cond.static y).before a0 Z = true) (w3 : (Jvm.Cond.initialized y.cls).before a0 Z = true) (w4 : (Jvm.Cond.code y bytes maxL rt).before a0 Z = true) (hy : y.cls ≠ "java/lang/invoke/MethodHandle" ∧ y.cls ≠ "java/lang/invoke/VarHandle")
    (hM : own_Met l Z y bytes maxL rt [] rm as' h Q) (W : Nat) (hf : rm.frames + 1 ≤ R.frames) (hl : W + (maxL + 11) + rm.locals ≤ R.locals) (eT : T.heap = h) (hc : cells + rm.cells ≤ R.cells) (hs : slots + rm.slots ≤ R.slots)
    {g : JFrame} (hg : g.method = m) (hsize : g.locals.size = c.maxLocals) {argsL rest : List Value} (ha : argsL.toArray = as') (hlen : ∀ sig, parseMethodDescriptor y.desc = some sig → argsL.length = sig.parameters.length) (hstack : g.stack = argsL.reverse ++ rest) (hW : 2 * g.monitorRoom + (rest.map fun v => v.category).sum ≤ W) (hdg : decode c.code g.pc = .ok (.invokestatic index, 3))
    (k : ∀ v T' L, Stand p l e R s m args below meth c T' (locs ++ L) (cells + rm.cells) (slots + rm.slots) → Q v T'.heap L → own_End p e below P (T'.setTop { g with pc := g.pc + 3, stack := v.toList ++ rest })) : own_End p e below P (T.setTop g) := by
  obtain ⟨v, vm₁, ⟨T', L', k', n'⟩, -, X', ⟨L, hQ, h1, h2, h3⟩, st⟩ := Jvm.LawKit.callS X hx hown (mvT hZ w1) (mvT hZ w2) (mvT hZ w3) (mvT hZ w4) hy (backOf (W := W) hM hZ w4 w3 hf hl) hg hsize hlen hstack hW hdg (fun _ _ => ⟨ha, eT, hc, hs⟩)
  dsimp only [Pt.U, Pt.locs, Pt.cells, Pt.slots] at X' h1 h2 h3 st hQ
  subst h1 h2 h3
  exact own_st st (k v T' L X' hQ)
theorem own_callI (X : Stand p l e R s m args below meth c T locs cells slots) (hx : p.tables.exec = Jvm.exec) (hZ : Z.Warmed39 s.vm) {own : String} {index : Nat} {y : MethodName} {bytes : ByteArray} {maxL : Nat} {rm : Room} {as' : Array Value} {Q : Option Value → Heap → List Loc → Prop}
    (hy1 : y.name = "<init>") (hown : s.vm.findClass own = some m.cls) (w1 : (Jvm.Cond.methodLink own index y).before a0 Z = true) (w2 : (Jvm.Cond.instanceMethod y).before a0 Z = true) (w3 : (Jvm.Cond.initialized y.cls).before a0 Z = true) (w4 : (Jvm.Cond.code y bytes maxL none).before a0 Z = true) (hy : y.cls ≠ "java/lang/invoke/MethodHandle" ∧ y.cls ≠ "java/lang/invoke/VarHandle")
    (hM : own_Met l Z y bytes maxL none [] rm as' h Q) (W : Nat) (hf : rm.frames + 1 ≤ R.frames) (hl : W + (maxL + 11) + rm.locals ≤ R.locals) (eT : T.heap = h) (hc : cells + rm.cells ≤ R.cells) (hs : slots + rm.slots ≤ R.slots)
    {g : JFrame} (hg : g.method = m) (hsize : g.locals.size = c.maxLocals) {a : Addr} {argsL rest : List Value} (ha : (Value.ref a :: argsL).toArray = as') (hlen : ∀ sig, parseMethodDescriptor y.desc = some sig → argsL.length = sig.parameters.length) (hstack : g.stack = argsL.reverse ++ .ref a :: rest) (hW : 2 * g.monitorRoom + (rest.map fun v => v.category).sum ≤ W) (hdg : decode c.code g.pc = .ok (.invokespecial index, 3))
    (k : ∀ v T' L, Stand p l e R s m args below meth c T' (locs ++ L) (cells + rm.cells) (slots + rm.slots) → Q v T'.heap L → own_End p e below P (T'.setTop { g with pc := g.pc + 3, stack := v.toList ++ rest })) : own_End p e below P (T.setTop g) := by
  obtain ⟨v, vm₁, ⟨T', L', k', n'⟩, -, X', ⟨L, hQ, h1, h2, h3⟩, st⟩ := X.specialBack hx hy1 hown (mvT hZ w1) (mvT hZ w2) (mvT hZ w4) hy (backOf (W := W) hM hZ w4 w3 hf hl) hg hsize (Steps.refl _) hlen hstack hW hdg (fun _ _ => ⟨ha, eT, hc, hs⟩)
  dsimp only [Pt.U, Pt.locs, Pt.cells, Pt.slots] at X' h1 h2 h3 st hQ
  subst h1 h2 h3
  exact own_tr st (k v T' L X' hQ)
theorem own_callV (X : Stand p l e R s m args below meth c T locs cells slots) (hx : p.tables.exec = Jvm.exec) (hZ : Z.Warmed39 s.vm) {own C : String} {index : Nat} {y z : MethodName} {bytes : ByteArray} {maxL : Nat} {rt : Option FieldType} {rm : Room} {as' : Array Value} {Q : Option Value → Heap → List Loc → Prop}
    (hown : s.vm.findClass own = some m.cls) (w1 : (Jvm.Cond.methodLink own index y).before a0 Z = true) (w2 : (Jvm.Cond.declares y).before a0 Z = true) (hnf : NotFace s y) (w5 : (Jvm.Cond.selects C y z).before a0 Z = true) (w6 : (Jvm.Cond.instanceMethod z).before a0 Z = true) (w3 : (Jvm.Cond.initialized z.cls).before a0 Z = true) (w4 : (Jvm.Cond.code z bytes maxL rt).before a0 Z = true) (hy : y.cls ≠ "java/lang/invoke/MethodHandle" ∧ y.cls ≠ "java/lang/invoke/VarHandle")
    {a : Addr} (E : Exa Z h a C) (hM : own_Met l Z z bytes maxL rt [] rm as' h Q) (W : Nat) (hf : rm.frames + 1 ≤ R.frames) (hl : W + (maxL + 11) + rm.locals ≤ R.locals) (eT : T.heap = h) (hc : cells + rm.cells ≤ R.cells) (hs : slots + rm.slots ≤ R.slots)
    {g : JFrame} (hg : g.method = m) (hsize : g.locals.size = c.maxLocals) {argsL rest : List Value} (ha : (Value.ref a :: argsL).toArray = as') (hlen : ∀ sig, parseMethodDescriptor y.desc = some sig → argsL.length = sig.parameters.length) (hstack : g.stack = argsL.reverse ++ .ref a :: rest) (hW : 2 * g.monitorRoom + (rest.map fun v => v.category).sum ≤ W) (hdg : decode c.code g.pc = .ok (.invokevirtual index, 3))
    (k : ∀ v T' L, Stand p l e R s m args below meth c T' (locs ++ L) (cells + rm.cells) (slots + rm.slots) → Q v T'.heap L → own_End p e below P (T'.setTop { g with pc := g.pc + 3, stack := v.toList ++ rest })) : own_End p e below P (T.setTop g) := by
  obtain ⟨cB, kB, q1, q2, q3⟩ := isOf hZ eT E
  obtain ⟨v, vm₁, ⟨T', L', k', n'⟩, -, X', ⟨L, hQ, h1, h2, h3⟩, st⟩ := X.virtualBack hx (y := y) (z := z) hown (mvT hZ w1) (mvT hZ w2) hnf (mvT hZ w5) (mvT hZ w6) hy (backOf (W := W) hM hZ w4 w3 hf hl) q1 q3 hg hsize (Steps.refl _) hlen hstack hW hdg (fun _ _ => ⟨ha, eT, hc, hs⟩)
  dsimp only [Pt.U, Pt.locs, Pt.cells, Pt.slots] at X' h1 h2 h3 st hQ
  subst h1 h2 h3
  exact own_tr st (k v T' L X' hQ)
theorem own_callU (X : Stand p l e R s m args below meth c T locs cells slots) (hx : p.tables.exec = Jvm.exec) (hZ : Z.Warmed39 s.vm) {own C owner : String} {index : Nat} {x y : MethodName} {bytes : ByteArray} {maxL : Nat} {rt : Option FieldType} {rm : Room} {as' : Array Value} {Q : Option Value → Heap → List Loc → Prop}
    (hown : s.vm.findClass own = some m.cls) (w1 : (Jvm.Cond.methodLink own index x).before a0 Z = true) (w2 : (Jvm.Cond.sameMethod x.cls owner x.name x.desc).before a0 Z = true) (w7 : (Jvm.Cond.declares ⟨owner, x.name, x.desc⟩).before a0 Z = true) (hy : owner ≠ "java/lang/invoke/MethodHandle" ∧ owner ≠ "java/lang/invoke/VarHandle") (w5 : (Jvm.Cond.selects C x y).before a0 Z = true) (w6 : (Jvm.Cond.instanceMethod y).before a0 Z = true) (w3 : (Jvm.Cond.initialized y.cls).before a0 Z = true) (w4 : (Jvm.Cond.code y bytes maxL rt).before a0 Z = true)
    {a : Addr} (E : Exa Z h a C) (hM : own_Met l Z y bytes maxL rt [] rm as' h Q) (W : Nat) (hf : rm.frames + 1 ≤ R.frames) (hl : W + (maxL + 11) + rm.locals ≤ R.locals) (eT : T.heap = h) (hc : cells + rm.cells ≤ R.cells) (hs : slots + rm.slots ≤ R.slots)
    {g : JFrame} (hg : g.method = m) (hsize : g.locals.size = c.maxLocals) {argsL rest : List Value} (ha : (Value.ref a :: argsL).toArray = as') (hlen : ∀ sig, parseMethodDescriptor x.desc = some sig → argsL.length = sig.parameters.length) (hstack : g.stack = argsL.reverse ++ .ref a :: rest) (hW : 2 * g.monitorRoom + (rest.map fun v => v.category).sum ≤ W) (hdg : decode c.code g.pc = .ok (.invokevirtual index, 3))
    (k : ∀ v T' L, Stand p l e R s m args below meth c T' (locs ++ L) (cells + rm.cells) (slots + rm.slots) → Q v T'.heap L → own_End p e below P (T'.setTop { g with pc := g.pc + 3, stack := v.toList ++ rest })) : own_End p e below P (T.setTop g) := by
  obtain ⟨cB, kB, q1, q2, q3⟩ := isOf hZ eT E
  obtain ⟨v, vm₁, ⟨T', L', k', n'⟩, -, X', ⟨L, hQ, h1, h2, h3⟩, st⟩ := X.virtualBackUp hx (x := x) (y := y) hown (mvT hZ w1) (mvT hZ w2) (mvT hZ w7) hy (mvT hZ w5) (mvT hZ w6) (backOf (W := W) hM hZ w4 w3 hf hl) q1 q3 hg hsize (Steps.refl _) hlen hstack hW hdg (fun _ _ => ⟨ha, eT, hc, hs⟩)
  dsimp only [Pt.U, Pt.locs, Pt.cells, Pt.slots] at X' h1 h2 h3 st hQ
  subst h1 h2 h3
  exact own_tr st (k v T' L X' hQ)
theorem own_lt {x y : Int64} : lcmpW x y < 0 ↔ x < y := by rw [lcW]; exact lc_lt x y
theorem own_gt {x y : Int64} : 0 < lcmpW x y ↔ y < x := by rw [lcW]; exact lc_gt x y
theorem own_eq {x y : Int64} : lcmpW x y = 0 ↔ x = y := by rw [lcW]; exact lc_eq x y
theorem own_eqInt {first : State} {o : Option Outcome} {idx : List Nat} {t : Term} {k : Int32} (q : (Jvm.Cond.eq t (.int k)).value args first o s idx = some true) : t.eval args first o idx s = some (.int k) := by
  obtain ⟨x, y, e1, e2, k1, k2⟩ := cmp_v (Or.inl q)
  rw [Term.int_eval] at e2
  cases e2
  obtain ⟨z, rfl⟩ := k2
  rw [e1, gotT (Cond.eq_ints e1 (Term.int_eval k)) q]
end Own
theorem own_d1_0 : decode jdk_29_method_65_code 0 = .ok (.iload_n 0, 1) := by decide +kernel
theorem own_d1_1 : decode jdk_29_method_65_code 1 = .ok (.iload_n 1, 1) := by decide +kernel
theorem own_d1_2 : decode jdk_29_method_65_code 2 = .ok (.if_icmp .lt 7, 3) := by decide +kernel
theorem own_d1_9 : decode jdk_29_method_65_code 9 = .ok (.iload_n 1, 1) := by decide +kernel
theorem own_d1_10 : decode jdk_29_method_65_code 10 = .ok (.ireturn, 1) := by decide +kernel
theorem own_d1_5 : decode jdk_29_method_65_code 5 = .ok (.iload_n 0, 1) := by decide +kernel
theorem own_d1_6 : decode jdk_29_method_65_code 6 = .ok (.goto 4, 3) := by decide +kernel
theorem own_ef1 (m : MethodId) (p0 : Int32) (p1 : Int32) : entryFrame m #[(.int p0), (.int p1)] 2 = mkF m 0 #[.val (.int p0), .val (.int p1)] [] := by first | (simp [entryFrame, mkF, argsToLocals, Value.category]; done) | rfl
def own_f1 (p0 : Int32) (p1 : Int32) : Int32 := (if p0 < p1 then p1 else p0)
set_option maxRecDepth 65536 in
set_option maxHeartbeats 40000000 in
theorem own_m1 (l : Launch) (Z : State) (a0 : Array Value) (hw : ∀ d ∈ tables_1, d.before a0 Z = true) (ws : List Jvm.Cond) (p0 : Int32) (p1 : Int32)  (h0 : Heap) (n0 : Nat) (Z0 : n0 ≤ h0.size)  :
    own_Met l Z (⟨"java/lang/Math", "max", "(II)I"⟩ : MethodName) jdk_29_method_65_code 2 (some .int) ws ({ frames := 0, cells := 0, slots := 0, locals := 0 } : Room) #[(.int p0), (.int p1)] h0 (fun (v : Option Value) (h : Heap) (L : List Loc) => v = some (.int (own_f1 p0 p1)) ∧ Fr n0 L ∧ h = h0) := by
  refine own_enter (Jvm.Free.JP.mathPlain rfl (by decide +kernel)) ?_
  intro p e s m below meth c s₁ P hx hby hml hrt hlk hown hnm hZ X0 e0 hP
  have N0 := Fr.nil n0
  have K0 := Keep.refl h0 []
  have hml' : c.maxLocals = 2 := hml
  refine own_cast (own_ef1 m p0 p1) ?_
  show own_End p e below P (s₁.setTop (mkF m 0 #[.val (.int p0), .val (.int p1)] []))
  refine own_st (fun _ => XS.iloadN X0.here hx rfl (hb hby own_d1_0) rfl) ?_
  show own_End p e below P (s₁.setTop (mkF m 1 #[.val (.int p0), .val (.int p1)] [(.int p0)]))
  refine own_st (fun _ => XS.iloadN X0.here hx rfl (hb hby own_d1_1) rfl) ?_
  show own_End p e below P (s₁.setTop (mkF m 2 #[.val (.int p0), .val (.int p1)] [(.int p1), (.int p0)]))
  by_cases hc1 : p0 < p1
  · refine own_st (fun _ => XS.icmpYes X0.here hx rfl (pc0 := 2) (pc' := 9) rfl (hb hby own_d1_2) rfl (tlt hc1).1 (by decide) (by decide)) ?_
    show own_End p e below P (s₁.setTop (mkF m 9 #[.val (.int p0), .val (.int p1)] []))
    refine own_st (fun _ => XS.iloadN X0.here hx rfl (hb hby own_d1_9) rfl) ?_
    show own_End p e below P (s₁.setTop (mkF m 10 #[.val (.int p0), .val (.int p1)] [(.int p1)]))
    refine own_retI X0 hx hlk hP hrt (hb hby own_d1_10) (by decide) (by decide) ⟨congrArg (fun z => some (Value.int z)) ?_, N0, e0⟩
    exact (show own_f1 p0 p1 = p1 from (if_pos hc1).trans (rfl)).symm
  · refine own_st (fun _ => XS.icmpNo X0.here hx rfl (hb hby own_d1_2) rfl (flt hc1).1) ?_
    show own_End p e below P (s₁.setTop (mkF m 5 #[.val (.int p0), .val (.int p1)] []))
    refine own_st (fun _ => XS.iloadN X0.here hx rfl (hb hby own_d1_5) rfl) ?_
    show own_End p e below P (s₁.setTop (mkF m 6 #[.val (.int p0), .val (.int p1)] [(.int p0)]))
    refine own_st (fun _ => XS.goto X0.here hx rfl (pc0 := 6) (pc' := 10) rfl (hb hby own_d1_6) (by decide) (by decide)) ?_
    show own_End p e below P (s₁.setTop (mkF m 10 #[.val (.int p0), .val (.int p1)] [(.int p0)]))
    refine own_retI X0 hx hlk hP hrt (hb hby own_d1_10) (by decide) (by decide) ⟨congrArg (fun z => some (Value.int z)) ?_, N0, e0⟩
    exact (show own_f1 p0 p1 = p0 from (if_neg hc1).trans (rfl)).symm
theorem own_d2_0 : decode prog_22_method_4_code 0 = .ok (.iload_n 0, 1) := by decide +kernel
theorem own_d2_1 : decode prog_22_method_4_code 1 = .ok (.iconst 1, 1) := by decide +kernel
theorem own_d2_2 : decode prog_22_method_4_code 2 = .ok (.if_icmp .ge 17, 3) := by decide +kernel
theorem own_d2_19 : decode prog_22_method_4_code 19 = .ok (.return_, 1) := by decide +kernel
theorem own_ef2 (m : MethodId) (p0 : Int32) : entryFrame m #[(.int p0)] 1 = mkF m 0 #[.val (.int p0)] [] := by first | (simp [entryFrame, mkF, argsToLocals, Value.category]; done) | rfl
theorem own_pn_com_example_weiche_weiche_net_Interval : plainName "com/example/weiche/weiche/net/Interval" = true := by first | (simp [plainName, overriddenIn]; done) | decide +kernel
set_option maxRecDepth 65536 in
set_option maxHeartbeats 40000000 in
theorem own_m2 (l : Launch) (Z : State) (a0 : Array Value) (hw : ∀ d ∈ tables_1, d.before a0 Z = true) (ws : List Jvm.Cond) (p0 : Int32)  (h0 : Heap) (n0 : Nat) (Z0 : n0 ≤ h0.size) (hl : ¬ (p0 < (1 : Int32))) :
    own_Met l Z (⟨"com/example/weiche/weiche/net/Interval", "checkLower", "(I)V"⟩ : MethodName) prog_22_method_4_code 1 none ws ({ frames := 0, cells := 0, slots := 0, locals := 0 } : Room) #[(.int p0)] h0 (fun (v : Option Value) (h : Heap) (L : List Loc) => v = none ∧ Fr n0 L ∧ h = h0) := by
  refine own_enter (plainFor_of_name own_pn_com_example_weiche_weiche_net_Interval) ?_
  intro p e s m below meth c s₁ P hx hby hml hrt hlk hown hnm hZ X0 e0 hP
  have N0 := Fr.nil n0
  have K0 := Keep.refl h0 []
  have hml' : c.maxLocals = 1 := hml
  refine own_cast (own_ef2 m p0) ?_
  show own_End p e below P (s₁.setTop (mkF m 0 #[.val (.int p0)] []))
  refine own_st (fun _ => XS.iloadN X0.here hx rfl (hb hby own_d2_0) rfl) ?_
  show own_End p e below P (s₁.setTop (mkF m 1 #[.val (.int p0)] [(.int p0)]))
  refine own_st (fun _ => XS.iconst X0.here hx rfl (hb hby own_d2_1)) ?_
  show own_End p e below P (s₁.setTop (mkF m 2 #[.val (.int p0)] [(.int (1 : Int32)), (.int p0)]))
  refine own_st (fun _ => XS.icmpYes X0.here hx rfl (pc0 := 2) (pc' := 19) rfl (hb hby own_d2_2) rfl (flt hl).2.1 (by decide) (by decide)) ?_
  show own_End p e below P (s₁.setTop (mkF m 19 #[.val (.int p0)] []))
  exact own_retV X0 hx hlk hP hrt (hb hby own_d2_19) (by decide) (by decide) ⟨rfl, N0, e0⟩
theorem own_d3_0 : decode jdk_2649_method_3_code 0 = .ok (.aload_n 0, 1) := by decide +kernel
theorem own_d3_1 : decode jdk_2649_method_3_code 1 = .ok (.invokespecial 1, 3) := by decide +kernel
theorem own_d3_4 : decode jdk_2649_method_3_code 4 = .ok (.aload_n 0, 1) := by decide +kernel
theorem own_d3_5 : decode jdk_2649_method_3_code 5 = .ok (.iconst 1, 1) := by decide +kernel
theorem own_d3_6 : decode jdk_2649_method_3_code 6 = .ok (.putfield 7, 3) := by decide +kernel
theorem own_d3_9 : decode jdk_2649_method_3_code 9 = .ok (.aload_n 0, 1) := by decide +kernel
theorem own_d3_10 : decode jdk_2649_method_3_code 10 = .ok (.iload_n 1, 1) := by decide +kernel
theorem own_d3_11 : decode jdk_2649_method_3_code 11 = .ok (.putfield 13, 3) := by decide +kernel
theorem own_d3_14 : decode jdk_2649_method_3_code 14 = .ok (.return_, 1) := by decide +kernel
theorem own_ef3 (m : MethodId) (o0 : Addr) (p1 : Int32) : entryFrame m #[(.ref o0), (.int p1)] 2 = mkF m 0 #[.val (.ref o0), .val (.int p1)] [] := by first | (simp [entryFrame, mkF, argsToLocals, Value.category]; done) | rfl
theorem own_pn_java_util_OptionalInt : plainName "java/util/OptionalInt" = true := by first | (simp [plainName, overriddenIn]; done) | decide +kernel
set_option maxRecDepth 65536 in
set_option maxHeartbeats 40000000 in
theorem own_m3 (l : Launch) (Z : State) (a0 : Array Value) (hw : ∀ d ∈ tables_1, d.before a0 Z = true) (ws : List Jvm.Cond) (o0 : Addr) (p1 : Int32)  (h0 : Heap) (n0 : Nat) (Z0 : n0 ≤ h0.size) (E_o0 : Exa Z h0 o0 "java/util/OptionalInt") (F_o0_isPresent : Fld Z h0 o0 "java/util/OptionalInt" "isPresent" "Z" (.int (0 : Int32))) (F_o0_value : Fld Z h0 o0 "java/util/OptionalInt" "value" "I" (.int (0 : Int32))) (low_o0 : n0 ≤ o0) :
    own_Met l Z (⟨"java/util/OptionalInt", "<init>", "(I)V"⟩ : MethodName) jdk_2649_method_3_code 2 none ws ({ frames := 1, cells := 0, slots := 0, locals := 12 } : Room) #[(.ref o0), (.int p1)] h0 (fun (v : Option Value) (h : Heap) (L : List Loc) => v = none ∧ Fr n0 L ∧ Keep h0 h [o0] ∧ Exa Z h o0 "java/util/OptionalInt" ∧ Fld Z h o0 "java/util/OptionalInt" "isPresent" "Z" (.int (1 : Int32)) ∧ Fld Z h o0 "java/util/OptionalInt" "value" "I" (.int p1)) := by
  refine own_enter (plainFor_of_name own_pn_java_util_OptionalInt) ?_
  intro p e s m below meth c s₁ P hx hby hml hrt hlk hown hnm hZ X0 e0 hP
  have N0 := Fr.nil n0
  have K0 := Keep.refl h0 [o0]
  have hml' : c.maxLocals = 2 := hml
  refine own_cast (own_ef3 m o0 p1) ?_
  show own_End p e below P (s₁.setTop (mkF m 0 #[.val (.ref o0), .val (.int p1)] []))
  refine own_st (fun _ => XS.aloadN X0.here hx rfl (hb hby own_d3_0) rfl rfl) ?_
  show own_End p e below P (s₁.setTop (mkF m 1 #[.val (.ref o0), .val (.int p1)] [(.ref o0)]))
  obtain ⟨T1, X1, e1, st1⟩ := initO X0 hx hZ hown (hw _ (List.mem_of_getElem? (i := 23) rfl)) (hw _ (List.mem_of_getElem? (i := 24) rfl)) (hw _ (List.mem_of_getElem? (i := 25) rfl)) e0 (g := (mkF m 1 #[.val (.ref o0), .val (.int p1)] [(.ref o0)])) rfl (by rw [hml']; rfl) rfl (hb hby own_d3_1) (by decide) (W := 0) (by show 2 * 0 + _ ≤ _; exact Nat.le_of_eq rfl) (by decide)
  refine own_st (fun _ => st1 _) ?_
  show own_End p e below P (T1.setTop (mkF m 4 #[.val (.ref o0), .val (.int p1)] []))
  refine own_st (fun _ => XS.aloadN X1.here hx rfl (hb hby own_d3_4) rfl rfl) ?_
  show own_End p e below P (T1.setTop (mkF m 5 #[.val (.ref o0), .val (.int p1)] [(.ref o0)]))
  refine own_st (fun _ => XS.iconst X1.here hx rfl (hb hby own_d3_5)) ?_
  show own_End p e below P (T1.setTop (mkF m 6 #[.val (.ref o0), .val (.int p1)] [(.int (1 : Int32)), (.ref o0)]))
  obtain ⟨T2, h2, X2, e2, W2, st2⟩ := putFN X1 hx hZ hown (hw _ (List.mem_of_getElem? (i := 26) rfl)) Via.refl e1 F_o0_isPresent E_o0 (Or.inr ⟨(hw _ (List.mem_of_getElem? (i := 27) rfl)), rfl, hnm⟩) (hw _ (List.mem_of_getElem? (i := 18) rfl)) (ty := .boolean) (v' := (.int (1 : Int32))) (by decide) rfl (by decide) (g := (mkF m 6 #[.val (.ref o0), .val (.int p1)] [(.int (1 : Int32)), (.ref o0)])) rfl rfl (hb hby own_d3_6)
  have N2 := Fr.snoc X2 N0 low_o0
  have K2 := Keep.wr K0 W2 (Or.inl (List.mem_of_getElem? (i := 0) rfl))
  have F2 := F_o0_isPresent.same W2
  refine own_st (fun _ => st2 _) ?_
  show own_End p e below P (T2.setTop (mkF m 9 #[.val (.ref o0), .val (.int p1)] []))
  refine own_st (fun _ => XS.aloadN X2.here hx rfl (hb hby own_d3_9) rfl rfl) ?_
  show own_End p e below P (T2.setTop (mkF m 10 #[.val (.ref o0), .val (.int p1)] [(.ref o0)]))
  refine own_st (fun _ => XS.iloadN X2.here hx rfl (hb hby own_d3_10) rfl) ?_
  show own_End p e below P (T2.setTop (mkF m 11 #[.val (.ref o0), .val (.int p1)] [(.int p1), (.ref o0)]))
  have G3 := (F_o0_value.other W2 (Or.inr (slot_ne (Or.inr (hw _ (List.mem_of_getElem? (i := 29) rfl))) (Or.inr (hw _ (List.mem_of_getElem? (i := 27) rfl))) (by decide) (t := .int) (t' := .boolean) (by decide) (by decide))))
  have G4 := (E_o0.wr W2)
  obtain ⟨T5, h5, X5, e5, W5, st5⟩ := putF X2 hx hZ hown (host := "") (Or.inl (hw _ (List.mem_of_getElem? (i := 28) rfl))) Via.refl e2 G3 G4 (Or.inr ⟨(hw _ (List.mem_of_getElem? (i := 29) rfl)), rfl, hnm⟩) (hw _ (List.mem_of_getElem? (i := 18) rfl)) (ty := .int) (by decide) rfl rfl (g := (mkF m 11 #[.val (.ref o0), .val (.int p1)] [(.int p1), (.ref o0)])) rfl rfl (hb hby own_d3_11)
  have N5 := Fr.snoc X5 N2 low_o0
  have K5 := Keep.wr K2 W5 (Or.inl (List.mem_of_getElem? (i := 0) rfl))
  have F5 := G3.same W5
  refine own_st (fun _ => st5 _) ?_
  show own_End p e below P (T5.setTop (mkF m 14 #[.val (.ref o0), .val (.int p1)] []))
  have G6 := (G4.wr W5)
  have G7 := (F2.other W5 (Or.inr (slot_ne (Or.inr (hw _ (List.mem_of_getElem? (i := 27) rfl))) (Or.inr (hw _ (List.mem_of_getElem? (i := 29) rfl))) (by decide) (t := .boolean) (t' := .int) (by decide) (by decide))))
  have hfin : ((fun (v : Option Value) (h : Heap) (L : List Loc) => v = none ∧ Fr n0 L ∧ Keep h0 h [o0] ∧ Exa Z h o0 "java/util/OptionalInt" ∧ Fld Z h o0 "java/util/OptionalInt" "isPresent" "Z" (.int (1 : Int32)) ∧ Fld Z h o0 "java/util/OptionalInt" "value" "I" (.int p1))) none h5 _ := ⟨rfl, N5, K5, G6, G7, F5⟩
  refine own_retV X5 hx hlk hP hrt (hb hby own_d3_14) (by decide) (by decide) ?_
  rw [e5]; exact hfin
theorem own_d4_0 : decode jdk_2649_method_4_code 0 = .ok (.new 8, 3) := by decide +kernel
theorem own_d4_3 : decode jdk_2649_method_4_code 3 = .ok (.dup, 1) := by decide +kernel
theorem own_d4_4 : decode jdk_2649_method_4_code 4 = .ok (.iload_n 0, 1) := by decide +kernel
theorem own_d4_5 : decode jdk_2649_method_4_code 5 = .ok (.invokespecial 21, 3) := by decide +kernel
theorem own_pd_I_V_240 : parseMethodDescriptor "(I)V" = some ⟨[.int], none⟩ := by decide +kernel
theorem own_d4_8 : decode jdk_2649_method_4_code 8 = .ok (.areturn, 1) := by decide +kernel
theorem own_ef4 (m : MethodId) (p0 : Int32) : entryFrame m #[(.int p0)] 1 = mkF m 0 #[.val (.int p0)] [] := by first | (simp [entryFrame, mkF, argsToLocals, Value.category]; done) | rfl
set_option maxRecDepth 65536 in
set_option maxHeartbeats 40000000 in
theorem own_m4 (l : Launch) (Z : State) (a0 : Array Value) (hw : ∀ d ∈ tables_1, d.before a0 Z = true) (ws : List Jvm.Cond) (p0 : Int32)  (h0 : Heap) (n0 : Nat) (Z0 : n0 ≤ h0.size)  :
    own_Met l Z (⟨"java/util/OptionalInt", "of", "(I)Ljava/util/OptionalInt;"⟩ : MethodName) jdk_2649_method_4_code 1 (some (.object "java/util/OptionalInt")) ws ({ frames := 2, cells := 1, slots := 2, locals := 26 } : Room) #[(.int p0)] h0 (fun (v : Option Value) (h : Heap) (L : List Loc) => ∃ (b1 : Addr), v = some (.ref b1) ∧ Fr n0 L ∧ Keep h0 h [] ∧ h0.size ≤ b1 ∧ n0 ≤ b1 ∧ Exa Z h b1 "java/util/OptionalInt" ∧ Fld Z h b1 "java/util/OptionalInt" "isPresent" "Z" (.int (1 : Int32)) ∧ Fld Z h b1 "java/util/OptionalInt" "value" "I" (.int p0)) := by
  refine own_enter (plainFor_of_name own_pn_java_util_OptionalInt) ?_
  intro p e s m below meth c s₁ P hx hby hml hrt hlk hown hnm hZ X0 e0 hP
  have N0 := Fr.nil n0
  have K0 := Keep.refl h0 []
  have hml' : c.maxLocals = 1 := hml
  refine own_cast (own_ef4 m p0) ?_
  show own_End p e below P (s₁.setTop (mkF m 0 #[.val (.int p0)] []))
  obtain ⟨T1, h1, X1, e1, E1, A1, D1, -, st1⟩ := newO X0 hx hZ hown (hw _ (List.mem_of_getElem? (i := 17) rfl)) (hw _ (List.mem_of_getElem? (i := 18) rfl)) (hw _ (List.mem_of_getElem? (i := 15) rfl)) e0 (g := (mkF m 0 #[.val (.int p0)] [])) rfl (hb hby own_d4_0) (by decide) (by decide)
  obtain ⟨b1, g1⟩ : ∃ z, z = h0.size := ⟨_, rfl⟩
  rw [← g1] at A1 D1 st1
  have low_b1 : n0 ≤ b1 := Nat.le_trans Z0 (Nat.le_of_eq g1.symm)
  have sz_b1 : h0.size ≤ b1 := Nat.le_trans K0.1 (Nat.le_of_eq g1.symm)
  have Z1 := Nat.le_trans Z0 E1.1
  have K1 := Keep.ext K0 E1
  have F_b1_isPresent : Fld Z h1 b1 "java/util/OptionalInt" "isPresent" "Z" (.int (0 : Int32)) := D1 (Or.inr (hw _ (List.mem_of_getElem? (i := 27) rfl))) (ty := .boolean) (by decide)
  have F_b1_value : Fld Z h1 b1 "java/util/OptionalInt" "value" "I" (.int (0 : Int32)) := D1 (Or.inr (hw _ (List.mem_of_getElem? (i := 29) rfl))) (ty := .int) (by decide)
  refine own_st (fun _ => st1 _) ?_
  show own_End p e below P (T1.setTop (mkF m 3 #[.val (.int p0)] [(.ref b1)]))
  refine own_st (fun _ => XS.dup X1.here hx rfl (hb hby own_d4_3) rfl rfl) ?_
  show own_End p e below P (T1.setTop (mkF m 4 #[.val (.int p0)] [(.ref b1), (.ref b1)]))
  refine own_st (fun _ => XS.iloadN X1.here hx rfl (hb hby own_d4_4) rfl) ?_
  show own_End p e below P (T1.setTop (mkF m 5 #[.val (.int p0)] [(.int p0), (.ref b1), (.ref b1)]))
  refine own_callI X1 hx hZ (y := (⟨"java/util/OptionalInt", "<init>", "(I)V"⟩ : MethodName)) rfl hown (hw _ (List.mem_of_getElem? (i := 19) rfl)) (hw _ (List.mem_of_getElem? (i := 20) rfl)) (hw _ (List.mem_of_getElem? (i := 15) rfl)) (hw _ (List.mem_of_getElem? (i := 22) rfl)) (by decide) (own_m3 l Z a0 hw [] b1 p0  h1 n0 Z1 A1 F_b1_isPresent F_b1_value low_b1) 1 (by decide) (by decide) e1 (by decide) (by decide) (g := (mkF m 5 #[.val (.int p0)] [(.int p0), (.ref b1), (.ref b1)])) rfl (by rw [hml']; rfl) (a := b1) (argsL := [(.int p0)]) (rest := [(.ref b1)]) rfl (lenOf own_pd_I_V_240 rfl) rfl (by show 2 * 0 + _ ≤ _; exact Nat.le_of_eq rfl) (hb hby own_d4_5) (fun r2 T2 L2 X2 hQ2 => ?_)
  obtain ⟨rfl, Nq2, Kq2, f0_2, f1_2, f2_2⟩ := hQ2
  have N2 := Fr.app N0 Nq2
  have K2 := Keep.trans K1 Kq2 (allS (Or.inr sz_b1) all0)
  have Z2 := Nat.le_trans Z1 Kq2.1
  show own_End p e below P (T2.setTop (mkF m 8 #[.val (.int p0)] [(.ref b1)]))
  have hfin : ((fun (v : Option Value) (h : Heap) (L : List Loc) => ∃ (b1 : Addr), v = some (.ref b1) ∧ Fr n0 L ∧ Keep h0 h [] ∧ h0.size ≤ b1 ∧ n0 ≤ b1 ∧ Exa Z h b1 "java/util/OptionalInt" ∧ Fld Z h b1 "java/util/OptionalInt" "isPresent" "Z" (.int (1 : Int32)) ∧ Fld Z h b1 "java/util/OptionalInt" "value" "I" (.int p0))) (some (.ref b1)) T2.heap _ := ⟨b1, rfl, N2, K2, sz_b1, low_b1, f0_2, f1_2, f2_2⟩
  refine own_retR X2 hx hlk hP rfl rfl hrt (hb hby own_d4_8) (by decide) (by decide) ?_
  exact hfin
theorem own_d5_0 : decode prog_22_method_1_code 0 = .ok (.aload_n 0, 1) := by decide +kernel
theorem own_d5_1 : decode prog_22_method_1_code 1 = .ok (.invokespecial 1, 3) := by decide +kernel
theorem own_d5_4 : decode prog_22_method_1_code 4 = .ok (.aload_n 0, 1) := by decide +kernel
theorem own_d5_5 : decode prog_22_method_1_code 5 = .ok (.iload_n 1, 1) := by decide +kernel
theorem own_d5_6 : decode prog_22_method_1_code 6 = .ok (.putfield 7, 3) := by decide +kernel
theorem own_d5_9 : decode prog_22_method_1_code 9 = .ok (.aload_n 0, 1) := by decide +kernel
theorem own_d5_10 : decode prog_22_method_1_code 10 = .ok (.aload_n 2, 1) := by decide +kernel
theorem own_d5_11 : decode prog_22_method_1_code 11 = .ok (.putfield 13, 3) := by decide +kernel
theorem own_d5_14 : decode prog_22_method_1_code 14 = .ok (.return_, 1) := by decide +kernel
theorem own_ef5 (m : MethodId) (o0 : Addr) (p1 : Int32) (o2 : Addr) : entryFrame m #[(.ref o0), (.int p1), (.ref o2)] 3 = mkF m 0 #[.val (.ref o0), .val (.int p1), .val (.ref o2)] [] := by first | (simp [entryFrame, mkF, argsToLocals, Value.category]; done) | rfl
set_option maxRecDepth 65536 in
set_option maxHeartbeats 40000000 in
theorem own_m5 (l : Launch) (Z : State) (a0 : Array Value) (hw : ∀ d ∈ tables_1, d.before a0 Z = true) (ws : List Jvm.Cond) (o0 : Addr) (p1 : Int32) (o2 : Addr)  (h0 : Heap) (n0 : Nat) (Z0 : n0 ≤ h0.size) (E_o0 : Exa Z h0 o0 "com/example/weiche/weiche/net/Interval") (F_o0_lower : Fld Z h0 o0 "com/example/weiche/weiche/net/Interval" "lower" "I" (.int (0 : Int32))) (F_o0_upper : Fld Z h0 o0 "com/example/weiche/weiche/net/Interval" "upper" "Ljava/util/OptionalInt;" .null) (low_o0 : n0 ≤ o0) :
    own_Met l Z (⟨"com/example/weiche/weiche/net/Interval", "<init>", "(ILjava/util/OptionalInt;)V"⟩ : MethodName) prog_22_method_1_code 3 none ws ({ frames := 1, cells := 0, slots := 0, locals := 12 } : Room) #[(.ref o0), (.int p1), (.ref o2)] h0 (fun (v : Option Value) (h : Heap) (L : List Loc) => v = none ∧ Fr n0 L ∧ Keep h0 h [o0] ∧ Exa Z h o0 "com/example/weiche/weiche/net/Interval" ∧ Fld Z h o0 "com/example/weiche/weiche/net/Interval" "lower" "I" (.int p1) ∧ Fld Z h o0 "com/example/weiche/weiche/net/Interval" "upper" "Ljava/util/OptionalInt;" (.ref o2)) := by
  refine own_enter (plainFor_of_name own_pn_com_example_weiche_weiche_net_Interval) ?_
  intro p e s m below meth c s₁ P hx hby hml hrt hlk hown hnm hZ X0 e0 hP
  have N0 := Fr.nil n0
  have K0 := Keep.refl h0 [o0]
  have hml' : c.maxLocals = 3 := hml
  refine own_cast (own_ef5 m o0 p1 o2) ?_
  show own_End p e below P (s₁.setTop (mkF m 0 #[.val (.ref o0), .val (.int p1), .val (.ref o2)] []))
  refine own_st (fun _ => XS.aloadN X0.here hx rfl (hb hby own_d5_0) rfl rfl) ?_
  show own_End p e below P (s₁.setTop (mkF m 1 #[.val (.ref o0), .val (.int p1), .val (.ref o2)] [(.ref o0)]))
  obtain ⟨T1, X1, e1, st1⟩ := initO X0 hx hZ hown (hw _ (List.mem_of_getElem? (i := 33) rfl)) (hw _ (List.mem_of_getElem? (i := 24) rfl)) (hw _ (List.mem_of_getElem? (i := 25) rfl)) e0 (g := (mkF m 1 #[.val (.ref o0), .val (.int p1), .val (.ref o2)] [(.ref o0)])) rfl (by rw [hml']; rfl) rfl (hb hby own_d5_1) (by decide) (W := 0) (by show 2 * 0 + _ ≤ _; exact Nat.le_of_eq rfl) (by decide)
  refine own_st (fun _ => st1 _) ?_
  show own_End p e below P (T1.setTop (mkF m 4 #[.val (.ref o0), .val (.int p1), .val (.ref o2)] []))
  refine own_st (fun _ => XS.aloadN X1.here hx rfl (hb hby own_d5_4) rfl rfl) ?_
  show own_End p e below P (T1.setTop (mkF m 5 #[.val (.ref o0), .val (.int p1), .val (.ref o2)] [(.ref o0)]))
  refine own_st (fun _ => XS.iloadN X1.here hx rfl (hb hby own_d5_5) rfl) ?_
  show own_End p e below P (T1.setTop (mkF m 6 #[.val (.ref o0), .val (.int p1), .val (.ref o2)] [(.int p1), (.ref o0)]))
  obtain ⟨T2, h2, X2, e2, W2, st2⟩ := putF X1 hx hZ hown (host := "") (Or.inl (hw _ (List.mem_of_getElem? (i := 34) rfl))) Via.refl e1 F_o0_lower E_o0 (Or.inr ⟨(hw _ (List.mem_of_getElem? (i := 35) rfl)), rfl, hnm⟩) (hw _ (List.mem_of_getElem? (i := 12) rfl)) (ty := .int) (by decide) rfl rfl (g := (mkF m 6 #[.val (.ref o0), .val (.int p1), .val (.ref o2)] [(.int p1), (.ref o0)])) rfl rfl (hb hby own_d5_6)
  have N2 := Fr.snoc X2 N0 low_o0
  have K2 := Keep.wr K0 W2 (Or.inl (List.mem_of_getElem? (i := 0) rfl))
  have F2 := F_o0_lower.same W2
  refine own_st (fun _ => st2 _) ?_
  show own_End p e below P (T2.setTop (mkF m 9 #[.val (.ref o0), .val (.int p1), .val (.ref o2)] []))
  refine own_st (fun _ => XS.aloadN X2.here hx rfl (hb hby own_d5_9) rfl rfl) ?_
  show own_End p e below P (T2.setTop (mkF m 10 #[.val (.ref o0), .val (.int p1), .val (.ref o2)] [(.ref o0)]))
  refine own_st (fun _ => XS.aloadN X2.here hx rfl (hb hby own_d5_10) rfl rfl) ?_
  show own_End p e below P (T2.setTop (mkF m 11 #[.val (.ref o0), .val (.int p1), .val (.ref o2)] [(.ref o2), (.ref o0)]))
  have G3 := (F_o0_upper.other W2 (Or.inr (slot_ne (Or.inr (hw _ (List.mem_of_getElem? (i := 37) rfl))) (Or.inr (hw _ (List.mem_of_getElem? (i := 35) rfl))) (by decide) (t := (.object "java/util/OptionalInt")) (t' := .int) (by decide) (by decide))))
  have G4 := (E_o0.wr W2)
  obtain ⟨T5, h5, X5, e5, W5, st5⟩ := putF X2 hx hZ hown (host := "") (Or.inl (hw _ (List.mem_of_getElem? (i := 36) rfl))) Via.refl e2 G3 G4 (Or.inr ⟨(hw _ (List.mem_of_getElem? (i := 37) rfl)), rfl, hnm⟩) (hw _ (List.mem_of_getElem? (i := 12) rfl)) (ty := (.object "java/util/OptionalInt")) (by decide) rfl rfl (g := (mkF m 11 #[.val (.ref o0), .val (.int p1), .val (.ref o2)] [(.ref o2), (.ref o0)])) rfl rfl (hb hby own_d5_11)
  have N5 := Fr.snoc X5 N2 low_o0
  have K5 := Keep.wr K2 W5 (Or.inl (List.mem_of_getElem? (i := 0) rfl))
  have F5 := G3.same W5
  refine own_st (fun _ => st5 _) ?_
  show own_End p e below P (T5.setTop (mkF m 14 #[.val (.ref o0), .val (.int p1), .val (.ref o2)] []))
  have G6 := (G4.wr W5)
  have G7 := (F2.other W5 (Or.inr (slot_ne (Or.inr (hw _ (List.mem_of_getElem? (i := 35) rfl))) (Or.inr (hw _ (List.mem_of_getElem? (i := 37) rfl))) (by decide) (t := .int) (t' := (.object "java/util/OptionalInt")) (by decide) (by decide))))
  have hfin : ((fun (v : Option Value) (h : Heap) (L : List Loc) => v = none ∧ Fr n0 L ∧ Keep h0 h [o0] ∧ Exa Z h o0 "com/example/weiche/weiche/net/Interval" ∧ Fld Z h o0 "com/example/weiche/weiche/net/Interval" "lower" "I" (.int p1) ∧ Fld Z h o0 "com/example/weiche/weiche/net/Interval" "upper" "Ljava/util/OptionalInt;" (.ref o2))) none h5 _ := ⟨rfl, N5, K5, G6, G7, F5⟩
  refine own_retV X5 hx hlk hP hrt (hb hby own_d5_14) (by decide) (by decide) ?_
  rw [e5]; exact hfin
theorem own_d6_0 : decode prog_22_method_2_code 0 = .ok (.iload_n 0, 1) := by decide +kernel
theorem own_d6_1 : decode prog_22_method_2_code 1 = .ok (.invokestatic 17, 3) := by decide +kernel
theorem own_d6_4 : decode prog_22_method_2_code 4 = .ok (.iload_n 1, 1) := by decide +kernel
theorem own_d6_5 : decode prog_22_method_2_code 5 = .ok (.iload_n 0, 1) := by decide +kernel
theorem own_d6_6 : decode prog_22_method_2_code 6 = .ok (.if_icmp .ge 18, 3) := by decide +kernel
theorem own_d6_24 : decode prog_22_method_2_code 24 = .ok (.new 8, 3) := by decide +kernel
theorem own_d6_27 : decode prog_22_method_2_code 27 = .ok (.dup, 1) := by decide +kernel
theorem own_d6_28 : decode prog_22_method_2_code 28 = .ok (.iload_n 0, 1) := by decide +kernel
theorem own_d6_29 : decode prog_22_method_2_code 29 = .ok (.iload_n 1, 1) := by decide +kernel
theorem own_d6_30 : decode prog_22_method_2_code 30 = .ok (.invokestatic 30, 3) := by decide +kernel
theorem own_pd_I_Ljava_util_OptionalInt_390 : parseMethodDescriptor "(I)Ljava/util/OptionalInt;" = some ⟨[.int], some (.object "java/util/OptionalInt")⟩ := by decide +kernel
theorem own_d6_33 : decode prog_22_method_2_code 33 = .ok (.invokespecial 36, 3) := by decide +kernel
theorem own_pd_ILjava_util_OptionalInt__V_476 : parseMethodDescriptor "(ILjava/util/OptionalInt;)V" = some ⟨[.int, (.object "java/util/OptionalInt")], none⟩ := by decide +kernel
theorem own_d6_36 : decode prog_22_method_2_code 36 = .ok (.areturn, 1) := by decide +kernel
theorem own_ef6 (m : MethodId) (p0 : Int32) (p1 : Int32) : entryFrame m #[(.int p0), (.int p1)] 2 = mkF m 0 #[.val (.int p0), .val (.int p1)] [] := by first | (simp [entryFrame, mkF, argsToLocals, Value.category]; done) | rfl
set_option maxRecDepth 65536 in
set_option maxHeartbeats 40000000 in
theorem own_m6 (l : Launch) (Z : State) (a0 : Array Value) (hw : ∀ d ∈ tables_1, d.before a0 Z = true) (ws : List Jvm.Cond) (p0 : Int32) (p1 : Int32)  (h0 : Heap) (n0 : Nat) (Z0 : n0 ≤ h0.size) (hl : ¬ (p0 < (1 : Int32))) (hu : ¬ (p1 < p0)) :
    own_Met l Z (⟨"com/example/weiche/weiche/net/Interval", "bounded", "(II)Lcom/example/weiche/weiche/net/Interval;"⟩ : MethodName) prog_22_method_2_code 2 (some (.object "com/example/weiche/weiche/net/Interval")) ws ({ frames := 3, cells := 2, slots := 4, locals := 41 } : Room) #[(.int p0), (.int p1)] h0 (fun (v : Option Value) (h : Heap) (L : List Loc) => ∃ (b2 : Addr) (b1_3 : Addr), v = some (.ref b2) ∧ Fr n0 L ∧ Keep h0 h [] ∧ h0.size ≤ b2 ∧ n0 ≤ b2 ∧ h0.size ≤ b1_3 ∧ n0 ≤ b1_3 ∧ b2 ≠ b1_3 ∧ Exa Z h b2 "com/example/weiche/weiche/net/Interval" ∧ Fld Z h b2 "com/example/weiche/weiche/net/Interval" "lower" "I" (.int p0) ∧ Fld Z h b2 "com/example/weiche/weiche/net/Interval" "upper" "Ljava/util/OptionalInt;" (.ref b1_3) ∧ Exa Z h b1_3 "java/util/OptionalInt" ∧ Fld Z h b1_3 "java/util/OptionalInt" "isPresent" "Z" (.int (1 : Int32)) ∧ Fld Z h b1_3 "java/util/OptionalInt" "value" "I" (.int p1)) := by
  refine own_enter (plainFor_of_name own_pn_com_example_weiche_weiche_net_Interval) ?_
  intro p e s m below meth c s₁ P hx hby hml hrt hlk hown hnm hZ X0 e0 hP
  have N0 := Fr.nil n0
  have K0 := Keep.refl h0 []
  have hml' : c.maxLocals = 2 := hml
  refine own_cast (own_ef6 m p0 p1) ?_
  show own_End p e below P (s₁.setTop (mkF m 0 #[.val (.int p0), .val (.int p1)] []))
  refine own_st (fun _ => XS.iloadN X0.here hx rfl (hb hby own_d6_0) rfl) ?_
  show own_End p e below P (s₁.setTop (mkF m 1 #[.val (.int p0), .val (.int p1)] [(.int p0)]))
  refine own_callS X0 hx hZ (y := (⟨"com/example/weiche/weiche/net/Interval", "checkLower", "(I)V"⟩ : MethodName)) hown (hw _ (List.mem_of_getElem? (i := 8) rfl)) (hw _ (List.mem_of_getElem? (i := 9) rfl)) (hw _ (List.mem_of_getElem? (i := 6) rfl)) (hw _ (List.mem_of_getElem? (i := 10) rfl)) (by decide) (own_m2 l Z a0 hw [] p0  h0 n0 Z0 hl) 0 (by decide) (by decide) e0 (by decide) (by decide) (g := (mkF m 1 #[.val (.int p0), .val (.int p1)] [(.int p0)])) rfl (by rw [hml']; rfl) (argsL := [(.int p0)]) (rest := []) rfl (lenOf own_pd_I_V_240 rfl) rfl (by show 2 * 0 + _ ≤ _; exact Nat.le_of_eq rfl) (hb hby own_d6_1) (fun r1 T1 L1 X1 hQ1 => ?_)
  obtain ⟨rfl, Nq1, eq1⟩ := hQ1
  have N1 := Fr.app N0 Nq1
  show own_End p e below P (T1.setTop (mkF m 4 #[.val (.int p0), .val (.int p1)] []))
  refine own_st (fun _ => XS.iloadN X1.here hx rfl (hb hby own_d6_4) rfl) ?_
  show own_End p e below P (T1.setTop (mkF m 5 #[.val (.int p0), .val (.int p1)] [(.int p1)]))
  refine own_st (fun _ => XS.iloadN X1.here hx rfl (hb hby own_d6_5) rfl) ?_
  show own_End p e below P (T1.setTop (mkF m 6 #[.val (.int p0), .val (.int p1)] [(.int p0), (.int p1)]))
  refine own_st (fun _ => XS.icmpYes X1.here hx rfl (pc0 := 6) (pc' := 24) rfl (hb hby own_d6_6) rfl (flt hu).2.1 (by decide) (by decide)) ?_
  show own_End p e below P (T1.setTop (mkF m 24 #[.val (.int p0), .val (.int p1)] []))
  obtain ⟨T2, h2, X2, e2, E2, A2, D2, -, st2⟩ := newO X1 hx hZ hown (hw _ (List.mem_of_getElem? (i := 11) rfl)) (hw _ (List.mem_of_getElem? (i := 12) rfl)) (hw _ (List.mem_of_getElem? (i := 6) rfl)) eq1 (g := (mkF m 24 #[.val (.int p0), .val (.int p1)] [])) rfl (hb hby own_d6_24) (by decide) (by decide)
  obtain ⟨b2, g2⟩ : ∃ z, z = h0.size := ⟨_, rfl⟩
  rw [← g2] at A2 D2 st2
  have low_b2 : n0 ≤ b2 := Nat.le_trans Z0 (Nat.le_of_eq g2.symm)
  have sz_b2 : h0.size ≤ b2 := Nat.le_trans K0.1 (Nat.le_of_eq g2.symm)
  have Z2 := Nat.le_trans Z0 E2.1
  have K2 := Keep.ext K0 E2
  have F_b2_lower : Fld Z h2 b2 "com/example/weiche/weiche/net/Interval" "lower" "I" (.int (0 : Int32)) := D2 (Or.inr (hw _ (List.mem_of_getElem? (i := 35) rfl))) (ty := .int) (by decide)
  have F_b2_upper : Fld Z h2 b2 "com/example/weiche/weiche/net/Interval" "upper" "Ljava/util/OptionalInt;" .null := D2 (Or.inr (hw _ (List.mem_of_getElem? (i := 37) rfl))) (ty := (.object "java/util/OptionalInt")) (by decide)
  refine own_st (fun _ => st2 _) ?_
  show own_End p e below P (T2.setTop (mkF m 27 #[.val (.int p0), .val (.int p1)] [(.ref b2)]))
  refine own_st (fun _ => XS.dup X2.here hx rfl (hb hby own_d6_27) rfl rfl) ?_
  show own_End p e below P (T2.setTop (mkF m 28 #[.val (.int p0), .val (.int p1)] [(.ref b2), (.ref b2)]))
  refine own_st (fun _ => XS.iloadN X2.here hx rfl (hb hby own_d6_28) rfl) ?_
  show own_End p e below P (T2.setTop (mkF m 29 #[.val (.int p0), .val (.int p1)] [(.int p0), (.ref b2), (.ref b2)]))
  refine own_st (fun _ => XS.iloadN X2.here hx rfl (hb hby own_d6_29) rfl) ?_
  show own_End p e below P (T2.setTop (mkF m 30 #[.val (.int p0), .val (.int p1)] [(.int p1), (.int p0), (.ref b2), (.ref b2)]))
  refine own_callS X2 hx hZ (y := (⟨"java/util/OptionalInt", "of", "(I)Ljava/util/OptionalInt;"⟩ : MethodName)) hown (hw _ (List.mem_of_getElem? (i := 13) rfl)) (hw _ (List.mem_of_getElem? (i := 14) rfl)) (hw _ (List.mem_of_getElem? (i := 15) rfl)) (hw _ (List.mem_of_getElem? (i := 16) rfl)) (by decide) (own_m4 l Z a0 hw [] p1  h2 n0 Z2 ) 3 (by decide) (by decide) e2 (by decide) (by decide) (g := (mkF m 30 #[.val (.int p0), .val (.int p1)] [(.int p1), (.int p0), (.ref b2), (.ref b2)])) rfl (by rw [hml']; rfl) (argsL := [(.int p1)]) (rest := [(.int p0), (.ref b2), (.ref b2)]) rfl (lenOf own_pd_I_Ljava_util_OptionalInt_390 rfl) rfl (by show 2 * 0 + _ ≤ _; exact Nat.le_of_eq rfl) (hb hby own_d6_30) (fun r3 T3 L3 X3 hQ3 => ?_)
  obtain ⟨b1_3, rfl, Nq3, Kq3, szq_b1_3, low_b1_3, f0_3, f1_3, f2_3⟩ := hQ3
  have N3 := Fr.app N1 Nq3
  have ne4 : b2 ≠ b1_3 := Nat.ne_of_lt (Nat.lt_of_lt_of_le A2.lt szq_b1_3)
  have sz_b1_3 := Nat.le_trans K2.1 szq_b1_3
  have K3 := Keep.trans K2 Kq3 all0
  have Z3 := Nat.le_trans Z2 Kq3.1
  show own_End p e below P (T3.setTop (mkF m 33 #[.val (.int p0), .val (.int p1)] [(.ref b1_3), (.int p0), (.ref b2), (.ref b2)]))
  have G6 := (A2.keep Kq3)
  have G7 := (F_b2_lower.keep Kq3 nin0)
  have G8 := (F_b2_upper.keep Kq3 nin0)
  refine own_callI X3 hx hZ (y := (⟨"com/example/weiche/weiche/net/Interval", "<init>", "(ILjava/util/OptionalInt;)V"⟩ : MethodName)) rfl hown (hw _ (List.mem_of_getElem? (i := 30) rfl)) (hw _ (List.mem_of_getElem? (i := 31) rfl)) (hw _ (List.mem_of_getElem? (i := 6) rfl)) (hw _ (List.mem_of_getElem? (i := 32) rfl)) (by decide) (own_m5 l Z a0 hw [] b2 p0 b1_3  T3.heap n0 Z3 G6 G7 G8 low_b2) 1 (by decide) (by decide) rfl (by decide) (by decide) (g := (mkF m 33 #[.val (.int p0), .val (.int p1)] [(.ref b1_3), (.int p0), (.ref b2), (.ref b2)])) rfl (by rw [hml']; rfl) (a := b2) (argsL := [(.int p0), (.ref b1_3)]) (rest := [(.ref b2)]) rfl (lenOf own_pd_ILjava_util_OptionalInt__V_476 rfl) rfl (by show 2 * 0 + _ ≤ _; exact Nat.le_of_eq rfl) (hb hby own_d6_33) (fun r5 T5 L5 X5 hQ5 => ?_)
  obtain ⟨rfl, Nq5, Kq5, f0_5, f1_5, f2_5⟩ := hQ5
  have N5 := Fr.app N3 Nq5
  have K5 := Keep.trans K3 Kq5 (allS (Or.inr sz_b2) all0)
  have Z5 := Nat.le_trans Z3 Kq5.1
  show own_End p e below P (T5.setTop (mkF m 36 #[.val (.int p0), .val (.int p1)] [(.ref b2)]))
  have G9 := (f0_3.keep Kq5)
  have G10 := (f1_3.keep Kq5 (ninS (Ne.symm ne4) nin0))
  have G11 := (f2_3.keep Kq5 (ninS (Ne.symm ne4) nin0))
  have hfin : ((fun (v : Option Value) (h : Heap) (L : List Loc) => ∃ (b2 : Addr) (b1_3 : Addr), v = some (.ref b2) ∧ Fr n0 L ∧ Keep h0 h [] ∧ h0.size ≤ b2 ∧ n0 ≤ b2 ∧ h0.size ≤ b1_3 ∧ n0 ≤ b1_3 ∧ b2 ≠ b1_3 ∧ Exa Z h b2 "com/example/weiche/weiche/net/Interval" ∧ Fld Z h b2 "com/example/weiche/weiche/net/Interval" "lower" "I" (.int p0) ∧ Fld Z h b2 "com/example/weiche/weiche/net/Interval" "upper" "Ljava/util/OptionalInt;" (.ref b1_3) ∧ Exa Z h b1_3 "java/util/OptionalInt" ∧ Fld Z h b1_3 "java/util/OptionalInt" "isPresent" "Z" (.int (1 : Int32)) ∧ Fld Z h b1_3 "java/util/OptionalInt" "value" "I" (.int p1))) (some (.ref b2)) T5.heap _ := ⟨b2, b1_3, rfl, N5, K5, sz_b2, low_b2, sz_b1_3, low_b1_3, ne4, f0_5, f1_5, f2_5, G9, G10, G11⟩
  refine own_retR X5 hx hlk hP rfl rfl hrt (hb hby own_d6_36) (by decide) (by decide) ?_
  exact hfin
theorem own_d7_0 : decode prog_22_method_5_code 0 = .ok (.aload_n 0, 1) := by decide +kernel
theorem own_d7_1 : decode prog_22_method_5_code 1 = .ok (.getfield 7, 3) := by decide +kernel
theorem own_d7_4 : decode prog_22_method_5_code 4 = .ok (.ireturn, 1) := by decide +kernel
theorem own_ef7 (m : MethodId) (o0 : Addr) : entryFrame m #[(.ref o0)] 1 = mkF m 0 #[.val (.ref o0)] [] := by first | (simp [entryFrame, mkF, argsToLocals, Value.category]; done) | rfl
def own_f7 (w_o0_lower : Int32) : Int32 := w_o0_lower
set_option maxRecDepth 65536 in
set_option maxHeartbeats 40000000 in
theorem own_m7 (l : Launch) (Z : State) (a0 : Array Value) (hw : ∀ d ∈ tables_1, d.before a0 Z = true) (ws : List Jvm.Cond) (o0 : Addr) (w_o0_lower : Int32) (h0 : Heap) (n0 : Nat) (Z0 : n0 ≤ h0.size) (F_o0_lower : Fld Z h0 o0 "com/example/weiche/weiche/net/Interval" "lower" "I" (.int w_o0_lower)) :
    own_Met l Z (⟨"com/example/weiche/weiche/net/Interval", "lower", "()I"⟩ : MethodName) prog_22_method_5_code 1 (some .int) ws ({ frames := 0, cells := 0, slots := 0, locals := 0 } : Room) #[(.ref o0)] h0 (fun (v : Option Value) (h : Heap) (L : List Loc) => v = some (.int (own_f7 w_o0_lower)) ∧ Fr n0 L ∧ h = h0) := by
  refine own_enter (plainFor_of_name own_pn_com_example_weiche_weiche_net_Interval) ?_
  intro p e s m below meth c s₁ P hx hby hml hrt hlk hown hnm hZ X0 e0 hP
  have N0 := Fr.nil n0
  have K0 := Keep.refl h0 []
  have hml' : c.maxLocals = 1 := hml
  refine own_cast (own_ef7 m o0) ?_
  show own_End p e below P (s₁.setTop (mkF m 0 #[.val (.ref o0)] []))
  refine own_st (fun _ => XS.aloadN X0.here hx rfl (hb hby own_d7_0) rfl rfl) ?_
  show own_End p e below P (s₁.setTop (mkF m 1 #[.val (.ref o0)] [(.ref o0)]))
  obtain ⟨T1, X1, e1, st1⟩ := getF X0 hx hZ hown (host := "") (Or.inl (hw _ (List.mem_of_getElem? (i := 34) rfl))) Via.refl e0 F_o0_lower (g := (mkF m 1 #[.val (.ref o0)] [(.ref o0)])) rfl rfl (hb hby own_d7_1)
  refine own_st (fun _ => st1 _) ?_
  show own_End p e below P (T1.setTop (mkF m 4 #[.val (.ref o0)] [(.int w_o0_lower)]))
  refine own_retI X1 hx hlk hP hrt (hb hby own_d7_4) (by decide) (by decide) ⟨congrArg (fun z => some (Value.int z)) ?_, N0, e1⟩
  exact (show own_f7 w_o0_lower = w_o0_lower from rfl).symm
theorem own_d8_0 : decode jdk_2649_method_6_code 0 = .ok (.aload_n 0, 1) := by decide +kernel
theorem own_d8_1 : decode jdk_2649_method_6_code 1 = .ok (.getfield 7, 3) := by decide +kernel
theorem own_d8_4 : decode jdk_2649_method_6_code 4 = .ok (.ireturn, 1) := by decide +kernel
theorem own_ef8 (m : MethodId) (o0 : Addr) : entryFrame m #[(.ref o0)] 1 = mkF m 0 #[.val (.ref o0)] [] := by first | (simp [entryFrame, mkF, argsToLocals, Value.category]; done) | rfl
def own_f8  : Int32 := (1 : Int32)
set_option maxRecDepth 65536 in
set_option maxHeartbeats 40000000 in
theorem own_m8 (l : Launch) (Z : State) (a0 : Array Value) (hw : ∀ d ∈ tables_1, d.before a0 Z = true) (ws : List Jvm.Cond) (o0 : Addr)  (h0 : Heap) (n0 : Nat) (Z0 : n0 ≤ h0.size) (F_o0_isPresent : Fld Z h0 o0 "java/util/OptionalInt" "isPresent" "Z" (.int (1 : Int32))) :
    own_Met l Z (⟨"java/util/OptionalInt", "isPresent", "()Z"⟩ : MethodName) jdk_2649_method_6_code 1 (some .boolean) ws ({ frames := 0, cells := 0, slots := 0, locals := 0 } : Room) #[(.ref o0)] h0 (fun (v : Option Value) (h : Heap) (L : List Loc) => v = some (.int (own_f8 )) ∧ Fr n0 L ∧ h = h0) := by
  refine own_enter (plainFor_of_name own_pn_java_util_OptionalInt) ?_
  intro p e s m below meth c s₁ P hx hby hml hrt hlk hown hnm hZ X0 e0 hP
  have N0 := Fr.nil n0
  have K0 := Keep.refl h0 []
  have hml' : c.maxLocals = 1 := hml
  refine own_cast (own_ef8 m o0) ?_
  show own_End p e below P (s₁.setTop (mkF m 0 #[.val (.ref o0)] []))
  refine own_st (fun _ => XS.aloadN X0.here hx rfl (hb hby own_d8_0) rfl rfl) ?_
  show own_End p e below P (s₁.setTop (mkF m 1 #[.val (.ref o0)] [(.ref o0)]))
  obtain ⟨T1, X1, e1, st1⟩ := getF X0 hx hZ hown (host := "") (Or.inl (hw _ (List.mem_of_getElem? (i := 26) rfl))) Via.refl e0 F_o0_isPresent (g := (mkF m 1 #[.val (.ref o0)] [(.ref o0)])) rfl rfl (hb hby own_d8_1)
  refine own_st (fun _ => st1 _) ?_
  show own_End p e below P (T1.setTop (mkF m 4 #[.val (.ref o0)] [(.int (1 : Int32))]))
  refine own_retN X1 hx hlk hP (t := .boolean) (by simp) hrt (hb hby own_d8_4) (by decide) (by decide) ⟨congrArg (fun z => some (Value.int z)) ?_, N0, e1⟩
  exact (show own_f8  = (1 : Int32) from rfl).symm
theorem own_d9_0 : decode jdk_2649_method_5_code 0 = .ok (.aload_n 0, 1) := by decide +kernel
theorem own_d9_1 : decode jdk_2649_method_5_code 1 = .ok (.getfield 7, 3) := by decide +kernel
theorem own_d9_4 : decode jdk_2649_method_5_code 4 = .ok (.ifCond .ne 13, 3) := by decide +kernel
theorem own_d9_17 : decode jdk_2649_method_5_code 17 = .ok (.aload_n 0, 1) := by decide +kernel
theorem own_d9_18 : decode jdk_2649_method_5_code 18 = .ok (.getfield 13, 3) := by decide +kernel
theorem own_d9_21 : decode jdk_2649_method_5_code 21 = .ok (.ireturn, 1) := by decide +kernel
theorem own_ef9 (m : MethodId) (o0 : Addr) : entryFrame m #[(.ref o0)] 1 = mkF m 0 #[.val (.ref o0)] [] := by first | (simp [entryFrame, mkF, argsToLocals, Value.category]; done) | rfl
def own_f9 (w_o0_value : Int32) : Int32 := w_o0_value
set_option maxRecDepth 65536 in
set_option maxHeartbeats 40000000 in
theorem own_m9 (l : Launch) (Z : State) (a0 : Array Value) (hw : ∀ d ∈ tables_1, d.before a0 Z = true) (ws : List Jvm.Cond) (o0 : Addr) (w_o0_value : Int32) (h0 : Heap) (n0 : Nat) (Z0 : n0 ≤ h0.size) (F_o0_isPresent : Fld Z h0 o0 "java/util/OptionalInt" "isPresent" "Z" (.int (1 : Int32))) (F_o0_value : Fld Z h0 o0 "java/util/OptionalInt" "value" "I" (.int w_o0_value)) :
    own_Met l Z (⟨"java/util/OptionalInt", "getAsInt", "()I"⟩ : MethodName) jdk_2649_method_5_code 1 (some .int) ws ({ frames := 0, cells := 0, slots := 0, locals := 0 } : Room) #[(.ref o0)] h0 (fun (v : Option Value) (h : Heap) (L : List Loc) => v = some (.int (own_f9 w_o0_value)) ∧ Fr n0 L ∧ h = h0) := by
  refine own_enter (plainFor_of_name own_pn_java_util_OptionalInt) ?_
  intro p e s m below meth c s₁ P hx hby hml hrt hlk hown hnm hZ X0 e0 hP
  have N0 := Fr.nil n0
  have K0 := Keep.refl h0 []
  have hml' : c.maxLocals = 1 := hml
  refine own_cast (own_ef9 m o0) ?_
  show own_End p e below P (s₁.setTop (mkF m 0 #[.val (.ref o0)] []))
  refine own_st (fun _ => XS.aloadN X0.here hx rfl (hb hby own_d9_0) rfl rfl) ?_
  show own_End p e below P (s₁.setTop (mkF m 1 #[.val (.ref o0)] [(.ref o0)]))
  obtain ⟨T1, X1, e1, st1⟩ := getF X0 hx hZ hown (host := "") (Or.inl (hw _ (List.mem_of_getElem? (i := 26) rfl))) Via.refl e0 F_o0_isPresent (g := (mkF m 1 #[.val (.ref o0)] [(.ref o0)])) rfl rfl (hb hby own_d9_1)
  refine own_st (fun _ => st1 _) ?_
  show own_End p e below P (T1.setTop (mkF m 4 #[.val (.ref o0)] [(.int (1 : Int32))]))
  refine own_st (fun _ => XS.ifYes X1.here hx rfl (pc0 := 4) (pc' := 17) rfl (hb hby own_d9_4) rfl ((if0 _ _).trans (feq (by decide : ¬ ((1 : Int32) = (0 : Int32)))).2) (by decide) (by decide)) ?_
  show own_End p e below P (T1.setTop (mkF m 17 #[.val (.ref o0)] []))
  refine own_st (fun _ => XS.aloadN X1.here hx rfl (hb hby own_d9_17) rfl rfl) ?_
  show own_End p e below P (T1.setTop (mkF m 18 #[.val (.ref o0)] [(.ref o0)]))
  obtain ⟨T2, X2, e2, st2⟩ := getF X1 hx hZ hown (host := "") (Or.inl (hw _ (List.mem_of_getElem? (i := 28) rfl))) Via.refl e1 F_o0_value (g := (mkF m 18 #[.val (.ref o0)] [(.ref o0)])) rfl rfl (hb hby own_d9_18)
  refine own_st (fun _ => st2 _) ?_
  show own_End p e below P (T2.setTop (mkF m 21 #[.val (.ref o0)] [(.int w_o0_value)]))
  refine own_retI X2 hx hlk hP hrt (hb hby own_d9_21) (by decide) (by decide) ⟨congrArg (fun z => some (Value.int z)) ?_, N0, e2⟩
  exact (show own_f9 w_o0_value = w_o0_value from rfl).symm
theorem own_d10_0 : decode prog_22_method_8_code 0 = .ok (.aload_n 0, 1) := by decide +kernel
theorem own_d10_1 : decode prog_22_method_8_code 1 = .ok (.getfield 13, 3) := by decide +kernel
theorem own_d10_4 : decode prog_22_method_8_code 4 = .ok (.invokevirtual 50, 3) := by decide +kernel
theorem own_pd_Z_171 : parseMethodDescriptor "()Z" = some ⟨[], some .boolean⟩ := by decide +kernel
theorem own_d10_7 : decode prog_22_method_8_code 7 = .ok (.ifCond .eq 20, 3) := by decide +kernel
theorem own_d10_10 : decode prog_22_method_8_code 10 = .ok (.lload_n 1, 1) := by decide +kernel
theorem own_d10_11 : decode prog_22_method_8_code 11 = .ok (.aload_n 0, 1) := by decide +kernel
theorem own_d10_12 : decode prog_22_method_8_code 12 = .ok (.getfield 13, 3) := by decide +kernel
theorem own_d10_15 : decode prog_22_method_8_code 15 = .ok (.invokevirtual 54, 3) := by decide +kernel
theorem own_pd_I_154 : parseMethodDescriptor "()I" = some ⟨[], some .int⟩ := by decide +kernel
theorem own_d10_18 : decode prog_22_method_8_code 18 = .ok (.i2l, 1) := by decide +kernel
theorem own_d10_19 : decode prog_22_method_8_code 19 = .ok (.lcmp, 1) := by decide +kernel
theorem own_d10_20 : decode prog_22_method_8_code 20 = .ok (.ifCond .le 7, 3) := by decide +kernel
theorem own_d10_23 : decode prog_22_method_8_code 23 = .ok (.iconst 1, 1) := by decide +kernel
theorem own_d10_24 : decode prog_22_method_8_code 24 = .ok (.goto 4, 3) := by decide +kernel
theorem own_d10_28 : decode prog_22_method_8_code 28 = .ok (.ireturn, 1) := by decide +kernel
theorem own_d10_27 : decode prog_22_method_8_code 27 = .ok (.iconst 0, 1) := by decide +kernel
theorem own_ef10 (m : MethodId) (o0 : Addr) (q1 : Int64) : entryFrame m #[(.ref o0), (.long q1)] 3 = mkF m 0 #[.val (.ref o0), .val (.long q1), .second] [] := by first | (simp [entryFrame, mkF, argsToLocals, Value.category]; done) | rfl
def own_f10 (q1 : Int64) (w_w_o0_upper_value : Int32) : Int32 := (if ((own_f9 w_w_o0_upper_value).toInt64) < q1 then (1 : Int32) else (0 : Int32))
set_option maxRecDepth 65536 in
set_option maxHeartbeats 40000000 in
theorem own_m10 (l : Launch) (Z : State) (a0 : Array Value) (hw : ∀ d ∈ tables_1, d.before a0 Z = true) (ws : List Jvm.Cond) (o0 : Addr) (q1 : Int64) (w_o0_upper : Addr) (w_w_o0_upper_value : Int32) (h0 : Heap) (n0 : Nat) (Z0 : n0 ≤ h0.size) (E_w_o0_upper : Exa Z h0 w_o0_upper "java/util/OptionalInt") (F_o0_upper : Fld Z h0 o0 "com/example/weiche/weiche/net/Interval" "upper" "Ljava/util/OptionalInt;" (.ref w_o0_upper)) (F_w_o0_upper_isPresent : Fld Z h0 w_o0_upper "java/util/OptionalInt" "isPresent" "Z" (.int (1 : Int32))) (F_w_o0_upper_value : Fld Z h0 w_o0_upper "java/util/OptionalInt" "value" "I" (.int w_w_o0_upper_value)) :
    own_Met l Z (⟨"com/example/weiche/weiche/net/Interval", "isPast", "(J)Z"⟩ : MethodName) prog_22_method_8_code 3 (some .boolean) ws ({ frames := 1, cells := 0, slots := 0, locals := 14 } : Room) #[(.ref o0), (.long q1)] h0 (fun (v : Option Value) (h : Heap) (L : List Loc) => v = some (.int (own_f10 q1 w_w_o0_upper_value)) ∧ Fr n0 L ∧ h = h0) := by
  refine own_enter (plainFor_of_name own_pn_com_example_weiche_weiche_net_Interval) ?_
  intro p e s m below meth c s₁ P hx hby hml hrt hlk hown hnm hZ X0 e0 hP
  have N0 := Fr.nil n0
  have K0 := Keep.refl h0 []
  have hml' : c.maxLocals = 3 := hml
  refine own_cast (own_ef10 m o0 q1) ?_
  show own_End p e below P (s₁.setTop (mkF m 0 #[.val (.ref o0), .val (.long q1), .second] []))
  refine own_st (fun _ => XS.aloadN X0.here hx rfl (hb hby own_d10_0) rfl rfl) ?_
  show own_End p e below P (s₁.setTop (mkF m 1 #[.val (.ref o0), .val (.long q1), .second] [(.ref o0)]))
  obtain ⟨T1, X1, e1, st1⟩ := getF X0 hx hZ hown (host := "") (Or.inl (hw _ (List.mem_of_getElem? (i := 36) rfl))) Via.refl e0 F_o0_upper (g := (mkF m 1 #[.val (.ref o0), .val (.long q1), .second] [(.ref o0)])) rfl rfl (hb hby own_d10_1)
  refine own_st (fun _ => st1 _) ?_
  show own_End p e below P (T1.setTop (mkF m 4 #[.val (.ref o0), .val (.long q1), .second] [(.ref w_o0_upper)]))
  refine own_callV X1 hx hZ (y := (⟨"java/util/OptionalInt", "isPresent", "()Z"⟩ : MethodName)) (z := (⟨"java/util/OptionalInt", "isPresent", "()Z"⟩ : MethodName)) hown (hw _ (List.mem_of_getElem? (i := 53) rfl)) (hw _ (List.mem_of_getElem? (i := 54) rfl)) (notFace_of_selects (args := #[]) (mvT hZ (hw _ (List.mem_of_getElem? (i := 56) rfl)))) (hw _ (List.mem_of_getElem? (i := 56) rfl)) (hw _ (List.mem_of_getElem? (i := 55) rfl)) (hw _ (List.mem_of_getElem? (i := 15) rfl)) (hw _ (List.mem_of_getElem? (i := 57) rfl)) (by decide) E_w_o0_upper (own_m8 l Z a0 hw [] w_o0_upper  h0 n0 Z0 F_w_o0_upper_isPresent) 0 (by decide) (by decide) e1 (by decide) (by decide) (g := (mkF m 4 #[.val (.ref o0), .val (.long q1), .second] [(.ref w_o0_upper)])) rfl (by rw [hml']; rfl) (argsL := []) (rest := []) rfl (lenOf own_pd_Z_171 rfl) rfl (by show 2 * 0 + _ ≤ _; exact Nat.le_of_eq rfl) (hb hby own_d10_4) (fun r2 T2 L2 X2 hQ2 => ?_)
  obtain ⟨rfl, Nq2, eq2⟩ := hQ2
  have N2 := Fr.app N0 Nq2
  show own_End p e below P (T2.setTop (mkF m 7 #[.val (.ref o0), .val (.long q1), .second] [(.int (1 : Int32))]))
  refine own_st (fun _ => XS.ifNo X2.here hx rfl (hb hby own_d10_7) rfl ((if0 _ _).trans (feq (by decide : ¬ ((1 : Int32) = (0 : Int32)))).1)) ?_
  show own_End p e below P (T2.setTop (mkF m 10 #[.val (.ref o0), .val (.long q1), .second] []))
  refine own_st (fun _ => XS.lloadN X2.here hx rfl (hb hby own_d10_10) rfl) ?_
  show own_End p e below P (T2.setTop (mkF m 11 #[.val (.ref o0), .val (.long q1), .second] [(.long q1)]))
  refine own_st (fun _ => XS.aloadN X2.here hx rfl (hb hby own_d10_11) rfl rfl) ?_
  show own_End p e below P (T2.setTop (mkF m 12 #[.val (.ref o0), .val (.long q1), .second] [(.ref o0), (.long q1)]))
  obtain ⟨T3, X3, e3, st3⟩ := getF X2 hx hZ hown (host := "") (Or.inl (hw _ (List.mem_of_getElem? (i := 36) rfl))) Via.refl eq2 F_o0_upper (g := (mkF m 12 #[.val (.ref o0), .val (.long q1), .second] [(.ref o0), (.long q1)])) rfl rfl (hb hby own_d10_12)
  refine own_st (fun _ => st3 _) ?_
  show own_End p e below P (T3.setTop (mkF m 15 #[.val (.ref o0), .val (.long q1), .second] [(.ref w_o0_upper), (.long q1)]))
  refine own_callV X3 hx hZ (y := (⟨"java/util/OptionalInt", "getAsInt", "()I"⟩ : MethodName)) (z := (⟨"java/util/OptionalInt", "getAsInt", "()I"⟩ : MethodName)) hown (hw _ (List.mem_of_getElem? (i := 58) rfl)) (hw _ (List.mem_of_getElem? (i := 59) rfl)) (notFace_of_selects (args := #[]) (mvT hZ (hw _ (List.mem_of_getElem? (i := 61) rfl)))) (hw _ (List.mem_of_getElem? (i := 61) rfl)) (hw _ (List.mem_of_getElem? (i := 60) rfl)) (hw _ (List.mem_of_getElem? (i := 15) rfl)) (hw _ (List.mem_of_getElem? (i := 62) rfl)) (by decide) E_w_o0_upper (own_m9 l Z a0 hw [] w_o0_upper w_w_o0_upper_value h0 n0 Z0 F_w_o0_upper_isPresent F_w_o0_upper_value) 2 (by decide) (by decide) e3 (by decide) (by decide) (g := (mkF m 15 #[.val (.ref o0), .val (.long q1), .second] [(.ref w_o0_upper), (.long q1)])) rfl (by rw [hml']; rfl) (argsL := []) (rest := [(.long q1)]) rfl (lenOf own_pd_I_154 rfl) rfl (by show 2 * 0 + _ ≤ _; exact Nat.le_of_eq rfl) (hb hby own_d10_15) (fun r4 T4 L4 X4 hQ4 => ?_)
  obtain ⟨rfl, Nq4, eq4⟩ := hQ4
  have N4 := Fr.app N2 Nq4
  show own_End p e below P (T4.setTop (mkF m 18 #[.val (.ref o0), .val (.long q1), .second] [(.int (own_f9 w_w_o0_upper_value)), (.long q1)]))
  refine own_st (fun _ => XS.i2l X4.here hx rfl (hb hby own_d10_18) rfl) ?_
  show own_End p e below P (T4.setTop (mkF m 19 #[.val (.ref o0), .val (.long q1), .second] [(.long ((own_f9 w_w_o0_upper_value).toInt64)), (.long q1)]))
  refine own_st (fun _ => XS.lcmp X4.here hx rfl (hb hby own_d10_19) rfl) ?_
  show own_End p e below P (T4.setTop (mkF m 20 #[.val (.ref o0), .val (.long q1), .second] [(.int (lcmpW q1 ((own_f9 w_w_o0_upper_value).toInt64)))]))
  by_cases hc5 : ((own_f9 w_w_o0_upper_value).toInt64) < q1
  · refine own_st (fun _ => XS.ifNo X4.here hx rfl (hb hby own_d10_20) rfl ((if0 _ _).trans (tlt (own_gt.mpr hc5)).2.2.2)) ?_
    show own_End p e below P (T4.setTop (mkF m 23 #[.val (.ref o0), .val (.long q1), .second] []))
    refine own_st (fun _ => XS.iconst X4.here hx rfl (hb hby own_d10_23)) ?_
    show own_End p e below P (T4.setTop (mkF m 24 #[.val (.ref o0), .val (.long q1), .second] [(.int (1 : Int32))]))
    refine own_st (fun _ => XS.goto X4.here hx rfl (pc0 := 24) (pc' := 28) rfl (hb hby own_d10_24) (by decide) (by decide)) ?_
    show own_End p e below P (T4.setTop (mkF m 28 #[.val (.ref o0), .val (.long q1), .second] [(.int (1 : Int32))]))
    refine own_retN X4 hx hlk hP (t := .boolean) (by simp) hrt (hb hby own_d10_28) (by decide) (by decide) ⟨congrArg (fun z => some (Value.int z)) ?_, N4, eq4⟩
    exact (show own_f10 q1 w_w_o0_upper_value = (1 : Int32) from (if_pos hc5).trans (rfl)).symm
  · refine own_st (fun _ => XS.ifYes X4.here hx rfl (pc0 := 20) (pc' := 27) rfl (hb hby own_d10_20) rfl ((if0 _ _).trans (flt (mt own_gt.mp hc5)).2.2.2) (by decide) (by decide)) ?_
    show own_End p e below P (T4.setTop (mkF m 27 #[.val (.ref o0), .val (.long q1), .second] []))
    refine own_st (fun _ => XS.iconst X4.here hx rfl (hb hby own_d10_27)) ?_
    show own_End p e below P (T4.setTop (mkF m 28 #[.val (.ref o0), .val (.long q1), .second] [(.int (0 : Int32))]))
    refine own_retN X4 hx hlk hP (t := .boolean) (by simp) hrt (hb hby own_d10_28) (by decide) (by decide) ⟨congrArg (fun z => some (Value.int z)) ?_, N4, eq4⟩
    exact (show own_f10 q1 w_w_o0_upper_value = (0 : Int32) from (if_neg hc5).trans (rfl)).symm
theorem own_d11_0 : decode prog_22_method_7_code 0 = .ok (.lload_n 1, 1) := by decide +kernel
theorem own_d11_1 : decode prog_22_method_7_code 1 = .ok (.aload_n 0, 1) := by decide +kernel
theorem own_d11_2 : decode prog_22_method_7_code 2 = .ok (.getfield 7, 3) := by decide +kernel
theorem own_d11_5 : decode prog_22_method_7_code 5 = .ok (.i2l, 1) := by decide +kernel
theorem own_d11_6 : decode prog_22_method_7_code 6 = .ok (.lcmp, 1) := by decide +kernel
theorem own_d11_7 : decode prog_22_method_7_code 7 = .ok (.ifCond .lt 15, 3) := by decide +kernel
theorem own_d11_22 : decode prog_22_method_7_code 22 = .ok (.iconst 0, 1) := by decide +kernel
theorem own_d11_23 : decode prog_22_method_7_code 23 = .ok (.ireturn, 1) := by decide +kernel
theorem own_d11_10 : decode prog_22_method_7_code 10 = .ok (.aload_n 0, 1) := by decide +kernel
theorem own_d11_11 : decode prog_22_method_7_code 11 = .ok (.lload_n 1, 1) := by decide +kernel
theorem own_d11_12 : decode prog_22_method_7_code 12 = .ok (.invokevirtual 46, 3) := by decide +kernel
theorem own_pd_J_Z_245 : parseMethodDescriptor "(J)Z" = some ⟨[.long], some .boolean⟩ := by decide +kernel
theorem own_d11_15 : decode prog_22_method_7_code 15 = .ok (.ifCond .ne 7, 3) := by decide +kernel
theorem own_d11_18 : decode prog_22_method_7_code 18 = .ok (.iconst 1, 1) := by decide +kernel
theorem own_d11_19 : decode prog_22_method_7_code 19 = .ok (.goto 4, 3) := by decide +kernel
theorem own_ef11 (m : MethodId) (o0 : Addr) (q1 : Int64) : entryFrame m #[(.ref o0), (.long q1)] 3 = mkF m 0 #[.val (.ref o0), .val (.long q1), .second] [] := by first | (simp [entryFrame, mkF, argsToLocals, Value.category]; done) | rfl
def own_f11 (q1 : Int64) (w_o0_lower : Int32) (w_w_o0_upper_value : Int32) : Int32 := (if q1 < (w_o0_lower.toInt64) then (0 : Int32) else (if (own_f10 q1 w_w_o0_upper_value) = (0 : Int32) then (1 : Int32) else (0 : Int32)))
set_option maxRecDepth 65536 in
set_option maxHeartbeats 40000000 in
theorem own_m11 (l : Launch) (Z : State) (a0 : Array Value) (hw : ∀ d ∈ tables_1, d.before a0 Z = true) (ws : List Jvm.Cond) (o0 : Addr) (q1 : Int64) (w_o0_lower : Int32) (w_o0_upper : Addr) (w_w_o0_upper_value : Int32) (h0 : Heap) (n0 : Nat) (Z0 : n0 ≤ h0.size) (E_o0 : Exa Z h0 o0 "com/example/weiche/weiche/net/Interval") (E_w_o0_upper : Exa Z h0 w_o0_upper "java/util/OptionalInt") (F_o0_lower : Fld Z h0 o0 "com/example/weiche/weiche/net/Interval" "lower" "I" (.int w_o0_lower)) (F_o0_upper : Fld Z h0 o0 "com/example/weiche/weiche/net/Interval" "upper" "Ljava/util/OptionalInt;" (.ref w_o0_upper)) (F_w_o0_upper_isPresent : Fld Z h0 w_o0_upper "java/util/OptionalInt" "isPresent" "Z" (.int (1 : Int32))) (F_w_o0_upper_value : Fld Z h0 w_o0_upper "java/util/OptionalInt" "value" "I" (.int w_w_o0_upper_value)) :
    own_Met l Z (⟨"com/example/weiche/weiche/net/Interval", "contains", "(J)Z"⟩ : MethodName) prog_22_method_7_code 3 (some .boolean) ws ({ frames := 2, cells := 0, slots := 0, locals := 28 } : Room) #[(.ref o0), (.long q1)] h0 (fun (v : Option Value) (h : Heap) (L : List Loc) => v = some (.int (own_f11 q1 w_o0_lower w_w_o0_upper_value)) ∧ Fr n0 L ∧ h = h0) := by
  refine own_enter (plainFor_of_name own_pn_com_example_weiche_weiche_net_Interval) ?_
  intro p e s m below meth c s₁ P hx hby hml hrt hlk hown hnm hZ X0 e0 hP
  have N0 := Fr.nil n0
  have K0 := Keep.refl h0 []
  have hml' : c.maxLocals = 3 := hml
  refine own_cast (own_ef11 m o0 q1) ?_
  show own_End p e below P (s₁.setTop (mkF m 0 #[.val (.ref o0), .val (.long q1), .second] []))
  refine own_st (fun _ => XS.lloadN X0.here hx rfl (hb hby own_d11_0) rfl) ?_
  show own_End p e below P (s₁.setTop (mkF m 1 #[.val (.ref o0), .val (.long q1), .second] [(.long q1)]))
  refine own_st (fun _ => XS.aloadN X0.here hx rfl (hb hby own_d11_1) rfl rfl) ?_
  show own_End p e below P (s₁.setTop (mkF m 2 #[.val (.ref o0), .val (.long q1), .second] [(.ref o0), (.long q1)]))
  obtain ⟨T1, X1, e1, st1⟩ := getF X0 hx hZ hown (host := "") (Or.inl (hw _ (List.mem_of_getElem? (i := 34) rfl))) Via.refl e0 F_o0_lower (g := (mkF m 2 #[.val (.ref o0), .val (.long q1), .second] [(.ref o0), (.long q1)])) rfl rfl (hb hby own_d11_2)
  refine own_st (fun _ => st1 _) ?_
  show own_End p e below P (T1.setTop (mkF m 5 #[.val (.ref o0), .val (.long q1), .second] [(.int w_o0_lower), (.long q1)]))
  refine own_st (fun _ => XS.i2l X1.here hx rfl (hb hby own_d11_5) rfl) ?_
  show own_End p e below P (T1.setTop (mkF m 6 #[.val (.ref o0), .val (.long q1), .second] [(.long (w_o0_lower.toInt64)), (.long q1)]))
  refine own_st (fun _ => XS.lcmp X1.here hx rfl (hb hby own_d11_6) rfl) ?_
  show own_End p e below P (T1.setTop (mkF m 7 #[.val (.ref o0), .val (.long q1), .second] [(.int (lcmpW q1 (w_o0_lower.toInt64)))]))
  by_cases hc2 : q1 < (w_o0_lower.toInt64)
  · refine own_st (fun _ => XS.ifYes X1.here hx rfl (pc0 := 7) (pc' := 22) rfl (hb hby own_d11_7) rfl ((if0 _ _).trans (tlt (own_lt.mpr hc2)).1) (by decide) (by decide)) ?_
    show own_End p e below P (T1.setTop (mkF m 22 #[.val (.ref o0), .val (.long q1), .second] []))
    refine own_st (fun _ => XS.iconst X1.here hx rfl (hb hby own_d11_22)) ?_
    show own_End p e below P (T1.setTop (mkF m 23 #[.val (.ref o0), .val (.long q1), .second] [(.int (0 : Int32))]))
    refine own_retN X1 hx hlk hP (t := .boolean) (by simp) hrt (hb hby own_d11_23) (by decide) (by decide) ⟨congrArg (fun z => some (Value.int z)) ?_, N0, e1⟩
    exact (show own_f11 q1 w_o0_lower w_w_o0_upper_value = (0 : Int32) from (if_pos hc2).trans (rfl)).symm
  · refine own_st (fun _ => XS.ifNo X1.here hx rfl (hb hby own_d11_7) rfl ((if0 _ _).trans (flt (mt own_lt.mp hc2)).1)) ?_
    show own_End p e below P (T1.setTop (mkF m 10 #[.val (.ref o0), .val (.long q1), .second] []))
    refine own_st (fun _ => XS.aloadN X1.here hx rfl (hb hby own_d11_10) rfl rfl) ?_
    show own_End p e below P (T1.setTop (mkF m 11 #[.val (.ref o0), .val (.long q1), .second] [(.ref o0)]))
    refine own_st (fun _ => XS.lloadN X1.here hx rfl (hb hby own_d11_11) rfl) ?_
    show own_End p e below P (T1.setTop (mkF m 12 #[.val (.ref o0), .val (.long q1), .second] [(.long q1), (.ref o0)]))
    refine own_callV X1 hx hZ (y := (⟨"com/example/weiche/weiche/net/Interval", "isPast", "(J)Z"⟩ : MethodName)) (z := (⟨"com/example/weiche/weiche/net/Interval", "isPast", "(J)Z"⟩ : MethodName)) hown (hw _ (List.mem_of_getElem? (i := 48) rfl)) (hw _ (List.mem_of_getElem? (i := 49) rfl)) (notFace_of_selects (args := #[]) (mvT hZ (hw _ (List.mem_of_getElem? (i := 51) rfl)))) (hw _ (List.mem_of_getElem? (i := 51) rfl)) (hw _ (List.mem_of_getElem? (i := 50) rfl)) (hw _ (List.mem_of_getElem? (i := 6) rfl)) (hw _ (List.mem_of_getElem? (i := 52) rfl)) (by decide) E_o0 (own_m10 l Z a0 hw [] o0 q1 w_o0_upper w_w_o0_upper_value h0 n0 Z0 E_w_o0_upper F_o0_upper F_w_o0_upper_isPresent F_w_o0_upper_value) 0 (by decide) (by decide) e1 (by decide) (by decide) (g := (mkF m 12 #[.val (.ref o0), .val (.long q1), .second] [(.long q1), (.ref o0)])) rfl (by rw [hml']; rfl) (argsL := [(.long q1)]) (rest := []) rfl (lenOf own_pd_J_Z_245 rfl) rfl (by show 2 * 0 + _ ≤ _; exact Nat.le_of_eq rfl) (hb hby own_d11_12) (fun r3 T3 L3 X3 hQ3 => ?_)
    obtain ⟨rfl, Nq3, eq3⟩ := hQ3
    have N3 := Fr.app N0 Nq3
    show own_End p e below P (T3.setTop (mkF m 15 #[.val (.ref o0), .val (.long q1), .second] [(.int (own_f10 q1 w_w_o0_upper_value))]))
    by_cases hc4 : (own_f10 q1 w_w_o0_upper_value) = (0 : Int32)
    · refine own_st (fun _ => XS.ifNo X3.here hx rfl (hb hby own_d11_15) rfl ((if0 _ _).trans (teq hc4).2)) ?_
      show own_End p e below P (T3.setTop (mkF m 18 #[.val (.ref o0), .val (.long q1), .second] []))
      refine own_st (fun _ => XS.iconst X3.here hx rfl (hb hby own_d11_18)) ?_
      show own_End p e below P (T3.setTop (mkF m 19 #[.val (.ref o0), .val (.long q1), .second] [(.int (1 : Int32))]))
      refine own_st (fun _ => XS.goto X3.here hx rfl (pc0 := 19) (pc' := 23) rfl (hb hby own_d11_19) (by decide) (by decide)) ?_
      show own_End p e below P (T3.setTop (mkF m 23 #[.val (.ref o0), .val (.long q1), .second] [(.int (1 : Int32))]))
      refine own_retN X3 hx hlk hP (t := .boolean) (by simp) hrt (hb hby own_d11_23) (by decide) (by decide) ⟨congrArg (fun z => some (Value.int z)) ?_, N3, eq3⟩
      exact (show own_f11 q1 w_o0_lower w_w_o0_upper_value = (1 : Int32) from (if_neg hc2).trans ((if_pos hc4).trans (rfl))).symm
    · refine own_st (fun _ => XS.ifYes X3.here hx rfl (pc0 := 15) (pc' := 22) rfl (hb hby own_d11_15) rfl ((if0 _ _).trans (feq hc4).2) (by decide) (by decide)) ?_
      show own_End p e below P (T3.setTop (mkF m 22 #[.val (.ref o0), .val (.long q1), .second] []))
      refine own_st (fun _ => XS.iconst X3.here hx rfl (hb hby own_d11_22)) ?_
      show own_End p e below P (T3.setTop (mkF m 23 #[.val (.ref o0), .val (.long q1), .second] [(.int (0 : Int32))]))
      refine own_retN X3 hx hlk hP (t := .boolean) (by simp) hrt (hb hby own_d11_23) (by decide) (by decide) ⟨congrArg (fun z => some (Value.int z)) ?_, N3, eq3⟩
      exact (show own_f11 q1 w_o0_lower w_w_o0_upper_value = (0 : Int32) from (if_neg hc2).trans ((if_neg hc4).trans (rfl))).symm
theorem own_max (a b : Int32) : a.toInt ≤ (own_f1 a b).toInt := by
  show _ ≤ (if a < b then b else a).toInt
  split
  · rename_i h; rw [Int32.lt_iff_toInt_lt] at h; omega
  · omega
theorem own_past (q : Int64) (u : Int32) : own_f10 q u = if u.toInt < q.toInt then 1 else 0 := by
  show (if (own_f9 u).toInt64 < q then (1 : Int32) else 0) = _
  have e : (own_f9 u).toInt64 < q ↔ u.toInt < q.toInt := by rw [Int64.lt_iff_toInt_lt, Jvm.Kit.i64_of_i32]; rfl
  by_cases h : u.toInt < q.toInt
  · rw [if_pos h, if_pos (e.mpr h)]
  · rw [if_neg h, if_neg (mt e.mp h)]
theorem own_cont (q : Int64) (lo u : Int32) : own_f11 q lo u = if lo.toInt ≤ q.toInt ∧ q.toInt ≤ u.toInt then 1 else 0 := by
  show (if q < lo.toInt64 then (0 : Int32) else (if own_f10 q u = 0 then 1 else 0)) = _
  have e : q < lo.toInt64 ↔ q.toInt < lo.toInt := by rw [Int64.lt_iff_toInt_lt, Jvm.Kit.i64_of_i32]
  rw [own_past]
  by_cases h : q.toInt < lo.toInt
  · rw [if_pos (e.mpr h), if_neg (by omega)]
  · rw [if_neg (mt e.mp h)]
    by_cases h2 : u.toInt < q.toInt
    · rw [if_pos h2, if_neg (by decide), if_neg (by omega)]
    · rw [if_neg h2, if_pos rfl, if_pos (by omega)]
theorem own_b32 (a : Int32) : a.toInt64.toInt = a.toInt ∧ (a.toInt64 - (1 : Int64)).toInt = a.toInt - 1 ∧ (a.toInt64 + (1 : Int64)).toInt = a.toInt + 1 := by
  have h1 := Int32.toInt_lt a
  have h2 := Int32.le_toInt a
  have e := Jvm.Kit.i64_of_i32 a
  have o : (1 : Int64).toInt = 1 := by decide
  refine ⟨e, ?_, ?_⟩
  · rw [Jvm.Kit.i64_sub (by rw [e, o]; omega) (by rw [e, o]; omega), e, o]
  · rw [Jvm.Kit.i64_add (by rw [e, o]; omega) (by rw [e, o]; omega), e, o]
theorem own_pd_II_I_300 : parseMethodDescriptor "(II)I" = some ⟨[.int, .int], some .int⟩ := by decide +kernel
theorem own_pd_II_Lcom_example_weiche_weiche_net_Interval_98 : parseMethodDescriptor "(II)Lcom/example/weiche/weiche/net/Interval;" = some ⟨[.int, .int], some (.object "com/example/weiche/weiche/net/Interval")⟩ := by decide +kernel
theorem own_ef0 (m : MethodId) (p0 : Int32) (p1 : Int32) (q2 : Int64) : entryFrame m #[(.int p0), (.int p1), (.long q2)] maxLocals = mkF m 0 #[.val (.int p0), .val (.int p1), .val (.long q2), .second, .unset, .unset, .unset, .unset] [] := by first | (simp [entryFrame, mkF, argsToLocals, Value.category, maxLocals]; done) | rfl
theorem own_pn_com_example_weiche_weiche_net_IntervalBoundedPinLaw : plainName "com/example/weiche/weiche/net/IntervalBoundedPinLaw" = true := by first | (simp [plainName, overriddenIn]; done) | decide +kernel
theorem own_c1 {q : Int64} {lo up v : Int32} (e : v = if q < lo.toInt64 then (0 : Int32) else (if up.toInt64 < q then (0 : Int32) else (1 : Int32))) : own_f11 q lo up = v := by
  subst e
  rw [own_cont]
  have e1 : q < lo.toInt64 ↔ q.toInt < lo.toInt := by rw [Int64.lt_iff_toInt_lt, Jvm.Kit.i64_of_i32]
  have e2 : up.toInt64 < q ↔ up.toInt < q.toInt := by rw [Int64.lt_iff_toInt_lt, Jvm.Kit.i64_of_i32]
  simp only [e1, e2]
  repeat' split
  all_goals first | rfl | omega
theorem own_c2 {q : Int64} {up v : Int32} (e : v = if up.toInt64 < q then (1 : Int32) else (0 : Int32)) : own_f10 q up = v := by
  subst e
  rw [own_past]
  have e2 : up.toInt64 < q ↔ up.toInt < q.toInt := by rw [Int64.lt_iff_toInt_lt, Jvm.Kit.i64_of_i32]
  simp only [e2]
set_option maxRecDepth 65536 in
set_option maxHeartbeats 40000000 in
theorem own_m0 (l : Launch) (Z : State) (a0 : Array Value) (hw : ∀ d ∈ tables_1, d.before a0 Z = true) (ws : List Jvm.Cond) (p0 : Int32) (p1 : Int32) (q2 : Int64)  (h0 : Heap) (n0 : Nat) (Z0 : n0 ≤ h0.size)  :
    own_Met l Z x code maxLocals ret ws room_1 #[(.int p0), (.int p1), (.long q2)] h0 (fun (v : Option Value) (h : Heap) (L : List Loc) => v = some (.int 1) ∧ Fr n0 L) := by
  refine own_enter (plainFor_of_name own_pn_com_example_weiche_weiche_net_IntervalBoundedPinLaw) ?_
  intro p e s m below meth c s₁ P hx hby hml hrt hlk hown hnm hZ X0 e0 hP
  have N0 := Fr.nil n0
  have K0 := Keep.refl h0 []
  have hml' : c.maxLocals = 8 := hml
  refine own_cast (own_ef0 m p0 p1 q2) ?_
  have hlo : (1 : Int32).toInt ≤ (own_f1 (1 : Int32) p0).toInt := own_max _ _
  have hup := own_max (own_f1 (1 : Int32) p0) p1
  have hone : (1 : Int32).toInt = 1 := by decide
  show own_End p e below P (s₁.setTop (mkF m 0 #[.val (.int p0), .val (.int p1), .val (.long q2), .second, .unset, .unset, .unset, .unset] []))
  refine own_st (fun _ => XS.iconst X0.here hx rfl (hb hby at_0)) ?_
  show own_End p e below P (s₁.setTop (mkF m 1 #[.val (.int p0), .val (.int p1), .val (.long q2), .second, .unset, .unset, .unset, .unset] [(.int (1 : Int32))]))
  refine own_st (fun _ => XS.iloadN X0.here hx rfl (hb hby at_1) rfl) ?_
  show own_End p e below P (s₁.setTop (mkF m 2 #[.val (.int p0), .val (.int p1), .val (.long q2), .second, .unset, .unset, .unset, .unset] [(.int p0), (.int (1 : Int32))]))
  refine own_callS X0 hx hZ (y := (⟨"java/lang/Math", "max", "(II)I"⟩ : MethodName)) hown (hw _ (List.mem_of_getElem? (i := 0) rfl)) (hw _ (List.mem_of_getElem? (i := 1) rfl)) (hw _ (List.mem_of_getElem? (i := 2) rfl)) (hw _ (List.mem_of_getElem? (i := 3) rfl)) (by decide) (own_m1 l Z a0 hw [] (1 : Int32) p0  h0 n0 Z0 ) 0 (by decide) (by decide) e0 (by decide) (by decide) (g := (mkF m 2 #[.val (.int p0), .val (.int p1), .val (.long q2), .second, .unset, .unset, .unset, .unset] [(.int p0), (.int (1 : Int32))])) rfl (by rw [hml']; rfl) (argsL := [(.int (1 : Int32)), (.int p0)]) (rest := []) rfl (lenOf own_pd_II_I_300 rfl) rfl (by show 2 * 0 + _ ≤ _; exact Nat.le_of_eq rfl) (hb hby at_2) (fun r1 T1 L1 X1 hQ1 => ?_)
  obtain ⟨rfl, Nq1, eq1⟩ := hQ1
  have N1 := Fr.app N0 Nq1
  show own_End p e below P (T1.setTop (mkF m 5 #[.val (.int p0), .val (.int p1), .val (.long q2), .second, .unset, .unset, .unset, .unset] [(.int (own_f1 (1 : Int32) p0))]))
  generalize hlo0 : own_f1 (1 : Int32) p0 = lo at hlo hup ⊢
  show own_End p e below P (T1.setTop (mkF m 5 #[.val (.int p0), .val (.int p1), .val (.long q2), .second, .unset, .unset, .unset, .unset] [(.int lo)]))
  refine own_st (fun _ => XS.istore X1.here hx rfl (hb hby at_5) rfl (l' := #[.val (.int p0), .val (.int p1), .val (.long q2), .second, .val (.int lo), .unset, .unset, .unset]) rfl) ?_
  show own_End p e below P (T1.setTop (mkF m 7 #[.val (.int p0), .val (.int p1), .val (.long q2), .second, .val (.int lo), .unset, .unset, .unset] []))
  refine own_st (fun _ => XS.iload X1.here hx rfl (hb hby at_7) rfl) ?_
  show own_End p e below P (T1.setTop (mkF m 9 #[.val (.int p0), .val (.int p1), .val (.long q2), .second, .val (.int lo), .unset, .unset, .unset] [(.int lo)]))
  refine own_st (fun _ => XS.iloadN X1.here hx rfl (hb hby at_9) rfl) ?_
  show own_End p e below P (T1.setTop (mkF m 10 #[.val (.int p0), .val (.int p1), .val (.long q2), .second, .val (.int lo), .unset, .unset, .unset] [(.int p1), (.int lo)]))
  refine own_callS X1 hx hZ (y := (⟨"java/lang/Math", "max", "(II)I"⟩ : MethodName)) hown (hw _ (List.mem_of_getElem? (i := 0) rfl)) (hw _ (List.mem_of_getElem? (i := 1) rfl)) (hw _ (List.mem_of_getElem? (i := 2) rfl)) (hw _ (List.mem_of_getElem? (i := 3) rfl)) (by decide) (own_m1 l Z a0 hw [] lo p1  h0 n0 Z0 ) 0 (by decide) (by decide) eq1 (by decide) (by decide) (g := (mkF m 10 #[.val (.int p0), .val (.int p1), .val (.long q2), .second, .val (.int lo), .unset, .unset, .unset] [(.int p1), (.int lo)])) rfl (by rw [hml']; rfl) (argsL := [(.int lo), (.int p1)]) (rest := []) rfl (lenOf own_pd_II_I_300 rfl) rfl (by show 2 * 0 + _ ≤ _; exact Nat.le_of_eq rfl) (hb hby at_10) (fun r2 T2 L2 X2 hQ2 => ?_)
  obtain ⟨rfl, Nq2, eq2⟩ := hQ2
  have N2 := Fr.app N1 Nq2
  show own_End p e below P (T2.setTop (mkF m 13 #[.val (.int p0), .val (.int p1), .val (.long q2), .second, .val (.int lo), .unset, .unset, .unset] [(.int (own_f1 lo p1))]))
  generalize hup0 : own_f1 lo p1 = up at hup ⊢
  show own_End p e below P (T2.setTop (mkF m 13 #[.val (.int p0), .val (.int p1), .val (.long q2), .second, .val (.int lo), .unset, .unset, .unset] [(.int up)]))
  refine own_st (fun _ => XS.istore X2.here hx rfl (hb hby at_13) rfl (l' := #[.val (.int p0), .val (.int p1), .val (.long q2), .second, .val (.int lo), .val (.int up), .unset, .unset]) rfl) ?_
  show own_End p e below P (T2.setTop (mkF m 15 #[.val (.int p0), .val (.int p1), .val (.long q2), .second, .val (.int lo), .val (.int up), .unset, .unset] []))
  refine own_st (fun _ => XS.iload X2.here hx rfl (hb hby at_15) rfl) ?_
  show own_End p e below P (T2.setTop (mkF m 17 #[.val (.int p0), .val (.int p1), .val (.long q2), .second, .val (.int lo), .val (.int up), .unset, .unset] [(.int lo)]))
  refine own_st (fun _ => XS.iload X2.here hx rfl (hb hby at_17) rfl) ?_
  show own_End p e below P (T2.setTop (mkF m 19 #[.val (.int p0), .val (.int p1), .val (.long q2), .second, .val (.int lo), .val (.int up), .unset, .unset] [(.int up), (.int lo)]))
  refine own_callS X2 hx hZ (y := (⟨"com/example/weiche/weiche/net/Interval", "bounded", "(II)Lcom/example/weiche/weiche/net/Interval;"⟩ : MethodName)) hown (hw _ (List.mem_of_getElem? (i := 4) rfl)) (hw _ (List.mem_of_getElem? (i := 5) rfl)) (hw _ (List.mem_of_getElem? (i := 6) rfl)) (hw _ (List.mem_of_getElem? (i := 7) rfl)) (by decide) (own_m6 l Z a0 hw [] lo up  h0 n0 Z0 (by rw [Int32.lt_iff_toInt_lt]; omega) (by rw [Int32.lt_iff_toInt_lt]; omega)) 0 (by decide) (by decide) eq2 (by decide) (by decide) (g := (mkF m 19 #[.val (.int p0), .val (.int p1), .val (.long q2), .second, .val (.int lo), .val (.int up), .unset, .unset] [(.int up), (.int lo)])) rfl (by rw [hml']; rfl) (argsL := [(.int lo), (.int up)]) (rest := []) rfl (lenOf own_pd_II_Lcom_example_weiche_weiche_net_Interval_98 rfl) rfl (by show 2 * 0 + _ ≤ _; exact Nat.le_of_eq rfl) (hb hby at_19) (fun r3 T3 L3 X3 hQ3 => ?_)
  obtain ⟨b2_3, b1_3_3, rfl, Nq3, Kq3, szq_b2_3, low_b2_3, szq_b1_3_3, low_b1_3_3, ne_b2_3_b1_3_3, f0_3, f1_3, f2_3, f3_3, f4_3, f5_3⟩ := hQ3
  have N3 := Fr.app N2 Nq3
  have sz_b2_3 := Nat.le_trans K0.1 szq_b2_3
  have sz_b1_3_3 := Nat.le_trans K0.1 szq_b1_3_3
  have K3 := Keep.trans K0 Kq3 all0
  have Z3 := Nat.le_trans Z0 Kq3.1
  show own_End p e below P (T3.setTop (mkF m 22 #[.val (.int p0), .val (.int p1), .val (.long q2), .second, .val (.int lo), .val (.int up), .unset, .unset] [(.ref b2_3)]))
  refine own_st (fun _ => XS.astore X3.here hx rfl (hb hby at_22) rfl rfl (l' := #[.val (.int p0), .val (.int p1), .val (.long q2), .second, .val (.int lo), .val (.int up), .val (.ref b2_3), .unset]) rfl) ?_
  show own_End p e below P (T3.setTop (mkF m 24 #[.val (.int p0), .val (.int p1), .val (.long q2), .second, .val (.int lo), .val (.int up), .val (.ref b2_3), .unset] []))
  refine own_st (fun _ => XS.aload X3.here hx rfl (hb hby at_24) rfl rfl) ?_
  show own_End p e below P (T3.setTop (mkF m 26 #[.val (.int p0), .val (.int p1), .val (.long q2), .second, .val (.int lo), .val (.int up), .val (.ref b2_3), .unset] [(.ref b2_3)]))
  refine own_callV X3 hx hZ (y := (⟨"com/example/weiche/weiche/net/Interval", "lower", "()I"⟩ : MethodName)) (z := (⟨"com/example/weiche/weiche/net/Interval", "lower", "()I"⟩ : MethodName)) hown (hw _ (List.mem_of_getElem? (i := 38) rfl)) (hw _ (List.mem_of_getElem? (i := 39) rfl)) (notFace_of_selects (args := #[]) (mvT hZ (hw _ (List.mem_of_getElem? (i := 41) rfl)))) (hw _ (List.mem_of_getElem? (i := 41) rfl)) (hw _ (List.mem_of_getElem? (i := 40) rfl)) (hw _ (List.mem_of_getElem? (i := 6) rfl)) (hw _ (List.mem_of_getElem? (i := 42) rfl)) (by decide) f0_3 (own_m7 l Z a0 hw [] b2_3 lo T3.heap n0 Z3 f1_3) 0 (by decide) (by decide) rfl (by decide) (by decide) (g := (mkF m 26 #[.val (.int p0), .val (.int p1), .val (.long q2), .second, .val (.int lo), .val (.int up), .val (.ref b2_3), .unset] [(.ref b2_3)])) rfl (by rw [hml']; rfl) (argsL := []) (rest := []) rfl (lenOf own_pd_I_154 rfl) rfl (by show 2 * 0 + _ ≤ _; exact Nat.le_of_eq rfl) (hb hby at_26) (fun r4 T4 L4 X4 hQ4 => ?_)
  obtain ⟨rfl, Nq4, eq4⟩ := hQ4
  have N4 := Fr.app N3 Nq4
  show own_End p e below P (T4.setTop (mkF m 29 #[.val (.int p0), .val (.int p1), .val (.long q2), .second, .val (.int lo), .val (.int up), .val (.ref b2_3), .unset] [(.int (own_f7 lo))]))
  refine own_st (fun _ => XS.iload X4.here hx rfl (hb hby at_29) rfl) ?_
  show own_End p e below P (T4.setTop (mkF m 31 #[.val (.int p0), .val (.int p1), .val (.long q2), .second, .val (.int lo), .val (.int up), .val (.ref b2_3), .unset] [(.int lo), (.int (own_f7 lo))]))
  have hc5 : (own_f7 lo) = lo := by rfl
  refine own_st (fun _ => XS.icmpNo X4.here hx rfl (hb hby at_31) rfl (teq hc5).2) ?_
  show own_End p e below P (T4.setTop (mkF m 34 #[.val (.int p0), .val (.int p1), .val (.long q2), .second, .val (.int lo), .val (.int up), .val (.ref b2_3), .unset] []))
  refine own_st (fun _ => XS.iconst X4.here hx rfl (hb hby at_34)) ?_
  show own_End p e below P (T4.setTop (mkF m 35 #[.val (.int p0), .val (.int p1), .val (.long q2), .second, .val (.int lo), .val (.int up), .val (.ref b2_3), .unset] [(.int (1 : Int32))]))
  refine own_st (fun _ => XS.goto X4.here hx rfl (pc0 := 35) (pc' := 39) rfl (hb hby at_35) (by decide) (by decide)) ?_
  show own_End p e below P (T4.setTop (mkF m 39 #[.val (.int p0), .val (.int p1), .val (.long q2), .second, .val (.int lo), .val (.int up), .val (.ref b2_3), .unset] [(.int (1 : Int32))]))
  refine own_st (fun _ => XS.istore X4.here hx rfl (hb hby at_39) rfl (l' := #[.val (.int p0), .val (.int p1), .val (.long q2), .second, .val (.int lo), .val (.int up), .val (.ref b2_3), .val (.int (1 : Int32))]) rfl) ?_
  show own_End p e below P (T4.setTop (mkF m 41 #[.val (.int p0), .val (.int p1), .val (.long q2), .second, .val (.int lo), .val (.int up), .val (.ref b2_3), .val (.int (1 : Int32))] []))
  refine own_st (fun _ => XS.iload X4.here hx rfl (hb hby at_41) rfl) ?_
  show own_End p e below P (T4.setTop (mkF m 43 #[.val (.int p0), .val (.int p1), .val (.long q2), .second, .val (.int lo), .val (.int up), .val (.ref b2_3), .val (.int (1 : Int32))] [(.int (1 : Int32))]))
  refine own_st (fun _ => XS.ifNo X4.here hx rfl (hb hby at_43) rfl ((if0 _ _).trans (feq (by decide : ¬ ((1 : Int32) = (0 : Int32)))).1)) ?_
  show own_End p e below P (T4.setTop (mkF m 46 #[.val (.int p0), .val (.int p1), .val (.long q2), .second, .val (.int lo), .val (.int up), .val (.ref b2_3), .val (.int (1 : Int32))] []))
  refine own_st (fun _ => XS.aload X4.here hx rfl (hb hby at_46) rfl rfl) ?_
  show own_End p e below P (T4.setTop (mkF m 48 #[.val (.int p0), .val (.int p1), .val (.long q2), .second, .val (.int lo), .val (.int up), .val (.ref b2_3), .val (.int (1 : Int32))] [(.ref b2_3)]))
  refine own_st (fun _ => XS.lloadN X4.here hx rfl (hb hby at_48) rfl) ?_
  show own_End p e below P (T4.setTop (mkF m 49 #[.val (.int p0), .val (.int p1), .val (.long q2), .second, .val (.int lo), .val (.int up), .val (.ref b2_3), .val (.int (1 : Int32))] [(.long q2), (.ref b2_3)]))
  refine own_callV X4 hx hZ (y := (⟨"com/example/weiche/weiche/net/Interval", "contains", "(J)Z"⟩ : MethodName)) (z := (⟨"com/example/weiche/weiche/net/Interval", "contains", "(J)Z"⟩ : MethodName)) hown (hw _ (List.mem_of_getElem? (i := 43) rfl)) (hw _ (List.mem_of_getElem? (i := 44) rfl)) (notFace_of_selects (args := #[]) (mvT hZ (hw _ (List.mem_of_getElem? (i := 46) rfl)))) (hw _ (List.mem_of_getElem? (i := 46) rfl)) (hw _ (List.mem_of_getElem? (i := 45) rfl)) (hw _ (List.mem_of_getElem? (i := 6) rfl)) (hw _ (List.mem_of_getElem? (i := 47) rfl)) (by decide) f0_3 (own_m11 l Z a0 hw [] b2_3 q2 lo b1_3_3 up T3.heap n0 Z3 f0_3 f3_3 f1_3 f2_3 f4_3 f5_3) 0 (by decide) (by decide) eq4 (by decide) (by decide) (g := (mkF m 49 #[.val (.int p0), .val (.int p1), .val (.long q2), .second, .val (.int lo), .val (.int up), .val (.ref b2_3), .val (.int (1 : Int32))] [(.long q2), (.ref b2_3)])) rfl (by rw [hml']; rfl) (argsL := [(.long q2)]) (rest := []) rfl (lenOf own_pd_J_Z_245 rfl) rfl (by show 2 * 0 + _ ≤ _; exact Nat.le_of_eq rfl) (hb hby at_49) (fun r6 T6 L6 X6 hQ6 => ?_)
  obtain ⟨rfl, Nq6, eq6⟩ := hQ6
  have N6 := Fr.app N4 Nq6
  show own_End p e below P (T6.setTop (mkF m 52 #[.val (.int p0), .val (.int p1), .val (.long q2), .second, .val (.int lo), .val (.int up), .val (.ref b2_3), .val (.int (1 : Int32))] [(.int (own_f11 q2 lo up))]))
  refine own_st (fun _ => XS.lloadN X6.here hx rfl (hb hby at_52) rfl) ?_
  show own_End p e below P (T6.setTop (mkF m 53 #[.val (.int p0), .val (.int p1), .val (.long q2), .second, .val (.int lo), .val (.int up), .val (.ref b2_3), .val (.int (1 : Int32))] [(.long q2), (.int (own_f11 q2 lo up))]))
  refine own_st (fun _ => XS.iload X6.here hx rfl (hb hby at_53) rfl) ?_
  show own_End p e below P (T6.setTop (mkF m 55 #[.val (.int p0), .val (.int p1), .val (.long q2), .second, .val (.int lo), .val (.int up), .val (.ref b2_3), .val (.int (1 : Int32))] [(.int lo), (.long q2), (.int (own_f11 q2 lo up))]))
  refine own_st (fun _ => XS.i2l X6.here hx rfl (hb hby at_55) rfl) ?_
  show own_End p e below P (T6.setTop (mkF m 56 #[.val (.int p0), .val (.int p1), .val (.long q2), .second, .val (.int lo), .val (.int up), .val (.ref b2_3), .val (.int (1 : Int32))] [(.long (lo.toInt64)), (.long q2), (.int (own_f11 q2 lo up))]))
  refine own_st (fun _ => XS.lcmp X6.here hx rfl (hb hby at_56) rfl) ?_
  show own_End p e below P (T6.setTop (mkF m 57 #[.val (.int p0), .val (.int p1), .val (.long q2), .second, .val (.int lo), .val (.int up), .val (.ref b2_3), .val (.int (1 : Int32))] [(.int (lcmpW q2 (lo.toInt64))), (.int (own_f11 q2 lo up))]))
  have J10 : ∀ v9 : Int32, v9 = (if q2 < (lo.toInt64) then (0 : Int32) else (if (up.toInt64) < q2 then (0 : Int32) else (1 : Int32))) → own_End p e below P (T6.setTop (mkF m 73 #[.val (.int p0), .val (.int p1), .val (.long q2), .second, .val (.int lo), .val (.int up), .val (.ref b2_3), .val (.int (1 : Int32))] [(.int v9), (.int (own_f11 q2 lo up))])) := by
    intro v9 e_v9
    have hc11 : (own_f11 q2 lo up) = v9 := by exact own_c1 e_v9
    refine own_st (fun _ => XS.icmpNo X6.here hx rfl (hb hby at_73) rfl (teq hc11).2) ?_
    show own_End p e below P (T6.setTop (mkF m 76 #[.val (.int p0), .val (.int p1), .val (.long q2), .second, .val (.int lo), .val (.int up), .val (.ref b2_3), .val (.int (1 : Int32))] []))
    refine own_st (fun _ => XS.iconst X6.here hx rfl (hb hby at_76)) ?_
    show own_End p e below P (T6.setTop (mkF m 77 #[.val (.int p0), .val (.int p1), .val (.long q2), .second, .val (.int lo), .val (.int up), .val (.ref b2_3), .val (.int (1 : Int32))] [(.int (1 : Int32))]))
    refine own_st (fun _ => XS.goto X6.here hx rfl (pc0 := 77) (pc' := 81) rfl (hb hby at_77) (by decide) (by decide)) ?_
    show own_End p e below P (T6.setTop (mkF m 81 #[.val (.int p0), .val (.int p1), .val (.long q2), .second, .val (.int lo), .val (.int up), .val (.ref b2_3), .val (.int (1 : Int32))] [(.int (1 : Int32))]))
    refine own_st (fun _ => XS.istore X6.here hx rfl (hb hby at_81) rfl (l' := #[.val (.int p0), .val (.int p1), .val (.long q2), .second, .val (.int lo), .val (.int up), .val (.ref b2_3), .val (.int (1 : Int32))]) rfl) ?_
    show own_End p e below P (T6.setTop (mkF m 83 #[.val (.int p0), .val (.int p1), .val (.long q2), .second, .val (.int lo), .val (.int up), .val (.ref b2_3), .val (.int (1 : Int32))] []))
    refine own_st (fun _ => XS.iload X6.here hx rfl (hb hby at_83) rfl) ?_
    show own_End p e below P (T6.setTop (mkF m 85 #[.val (.int p0), .val (.int p1), .val (.long q2), .second, .val (.int lo), .val (.int up), .val (.ref b2_3), .val (.int (1 : Int32))] [(.int (1 : Int32))]))
    refine own_st (fun _ => XS.ifNo X6.here hx rfl (hb hby at_85) rfl ((if0 _ _).trans (feq (by decide : ¬ ((1 : Int32) = (0 : Int32)))).1)) ?_
    show own_End p e below P (T6.setTop (mkF m 88 #[.val (.int p0), .val (.int p1), .val (.long q2), .second, .val (.int lo), .val (.int up), .val (.ref b2_3), .val (.int (1 : Int32))] []))
    refine own_st (fun _ => XS.aload X6.here hx rfl (hb hby at_88) rfl rfl) ?_
    show own_End p e below P (T6.setTop (mkF m 90 #[.val (.int p0), .val (.int p1), .val (.long q2), .second, .val (.int lo), .val (.int up), .val (.ref b2_3), .val (.int (1 : Int32))] [(.ref b2_3)]))
    refine own_st (fun _ => XS.lloadN X6.here hx rfl (hb hby at_90) rfl) ?_
    show own_End p e below P (T6.setTop (mkF m 91 #[.val (.int p0), .val (.int p1), .val (.long q2), .second, .val (.int lo), .val (.int up), .val (.ref b2_3), .val (.int (1 : Int32))] [(.long q2), (.ref b2_3)]))
    refine own_callV X6 hx hZ (y := (⟨"com/example/weiche/weiche/net/Interval", "isPast", "(J)Z"⟩ : MethodName)) (z := (⟨"com/example/weiche/weiche/net/Interval", "isPast", "(J)Z"⟩ : MethodName)) hown (hw _ (List.mem_of_getElem? (i := 63) rfl)) (hw _ (List.mem_of_getElem? (i := 49) rfl)) (notFace_of_selects (args := #[]) (mvT hZ (hw _ (List.mem_of_getElem? (i := 51) rfl)))) (hw _ (List.mem_of_getElem? (i := 51) rfl)) (hw _ (List.mem_of_getElem? (i := 50) rfl)) (hw _ (List.mem_of_getElem? (i := 6) rfl)) (hw _ (List.mem_of_getElem? (i := 52) rfl)) (by decide) f0_3 (own_m10 l Z a0 hw [] b2_3 q2 b1_3_3 up T3.heap n0 Z3 f3_3 f2_3 f4_3 f5_3) 0 (by decide) (by decide) eq6 (by decide) (by decide) (g := (mkF m 91 #[.val (.int p0), .val (.int p1), .val (.long q2), .second, .val (.int lo), .val (.int up), .val (.ref b2_3), .val (.int (1 : Int32))] [(.long q2), (.ref b2_3)])) rfl (by rw [hml']; rfl) (argsL := [(.long q2)]) (rest := []) rfl (lenOf own_pd_J_Z_245 rfl) rfl (by show 2 * 0 + _ ≤ _; exact Nat.le_of_eq rfl) (hb hby at_91) (fun r12 T12 L12 X12 hQ12 => ?_)
    obtain ⟨rfl, Nq12, eq12⟩ := hQ12
    have N12 := Fr.app N6 Nq12
    show own_End p e below P (T12.setTop (mkF m 94 #[.val (.int p0), .val (.int p1), .val (.long q2), .second, .val (.int lo), .val (.int up), .val (.ref b2_3), .val (.int (1 : Int32))] [(.int (own_f10 q2 up))]))
    refine own_st (fun _ => XS.lloadN X12.here hx rfl (hb hby at_94) rfl) ?_
    show own_End p e below P (T12.setTop (mkF m 95 #[.val (.int p0), .val (.int p1), .val (.long q2), .second, .val (.int lo), .val (.int up), .val (.ref b2_3), .val (.int (1 : Int32))] [(.long q2), (.int (own_f10 q2 up))]))
    refine own_st (fun _ => XS.iload X12.here hx rfl (hb hby at_95) rfl) ?_
    show own_End p e below P (T12.setTop (mkF m 97 #[.val (.int p0), .val (.int p1), .val (.long q2), .second, .val (.int lo), .val (.int up), .val (.ref b2_3), .val (.int (1 : Int32))] [(.int up), (.long q2), (.int (own_f10 q2 up))]))
    refine own_st (fun _ => XS.i2l X12.here hx rfl (hb hby at_97) rfl) ?_
    show own_End p e below P (T12.setTop (mkF m 98 #[.val (.int p0), .val (.int p1), .val (.long q2), .second, .val (.int lo), .val (.int up), .val (.ref b2_3), .val (.int (1 : Int32))] [(.long (up.toInt64)), (.long q2), (.int (own_f10 q2 up))]))
    refine own_st (fun _ => XS.lcmp X12.here hx rfl (hb hby at_98) rfl) ?_
    show own_End p e below P (T12.setTop (mkF m 99 #[.val (.int p0), .val (.int p1), .val (.long q2), .second, .val (.int lo), .val (.int up), .val (.ref b2_3), .val (.int (1 : Int32))] [(.int (lcmpW q2 (up.toInt64))), (.int (own_f10 q2 up))]))
    have J15 : ∀ v14 : Int32, v14 = (if (up.toInt64) < q2 then (1 : Int32) else (0 : Int32)) → own_End p e below P (T12.setTop (mkF m 107 #[.val (.int p0), .val (.int p1), .val (.long q2), .second, .val (.int lo), .val (.int up), .val (.ref b2_3), .val (.int (1 : Int32))] [(.int v14), (.int (own_f10 q2 up))])) := by
      intro v14 e_v14
      have hc16 : (own_f10 q2 up) = v14 := by exact own_c2 e_v14
      refine own_st (fun _ => XS.icmpNo X12.here hx rfl (hb hby at_107) rfl (teq hc16).2) ?_
      show own_End p e below P (T12.setTop (mkF m 110 #[.val (.int p0), .val (.int p1), .val (.long q2), .second, .val (.int lo), .val (.int up), .val (.ref b2_3), .val (.int (1 : Int32))] []))
      refine own_st (fun _ => XS.iconst X12.here hx rfl (hb hby at_110)) ?_
      show own_End p e below P (T12.setTop (mkF m 111 #[.val (.int p0), .val (.int p1), .val (.long q2), .second, .val (.int lo), .val (.int up), .val (.ref b2_3), .val (.int (1 : Int32))] [(.int (1 : Int32))]))
      refine own_st (fun _ => XS.goto X12.here hx rfl (pc0 := 111) (pc' := 115) rfl (hb hby at_111) (by decide) (by decide)) ?_
      show own_End p e below P (T12.setTop (mkF m 115 #[.val (.int p0), .val (.int p1), .val (.long q2), .second, .val (.int lo), .val (.int up), .val (.ref b2_3), .val (.int (1 : Int32))] [(.int (1 : Int32))]))
      refine own_st (fun _ => XS.istore X12.here hx rfl (hb hby at_115) rfl (l' := #[.val (.int p0), .val (.int p1), .val (.long q2), .second, .val (.int lo), .val (.int up), .val (.ref b2_3), .val (.int (1 : Int32))]) rfl) ?_
      show own_End p e below P (T12.setTop (mkF m 117 #[.val (.int p0), .val (.int p1), .val (.long q2), .second, .val (.int lo), .val (.int up), .val (.ref b2_3), .val (.int (1 : Int32))] []))
      refine own_st (fun _ => XS.iload X12.here hx rfl (hb hby at_117) rfl) ?_
      show own_End p e below P (T12.setTop (mkF m 119 #[.val (.int p0), .val (.int p1), .val (.long q2), .second, .val (.int lo), .val (.int up), .val (.ref b2_3), .val (.int (1 : Int32))] [(.int (1 : Int32))]))
      refine own_st (fun _ => XS.ifNo X12.here hx rfl (hb hby at_119) rfl ((if0 _ _).trans (feq (by decide : ¬ ((1 : Int32) = (0 : Int32)))).1)) ?_
      show own_End p e below P (T12.setTop (mkF m 122 #[.val (.int p0), .val (.int p1), .val (.long q2), .second, .val (.int lo), .val (.int up), .val (.ref b2_3), .val (.int (1 : Int32))] []))
      refine own_st (fun _ => XS.aload X12.here hx rfl (hb hby at_122) rfl rfl) ?_
      show own_End p e below P (T12.setTop (mkF m 124 #[.val (.int p0), .val (.int p1), .val (.long q2), .second, .val (.int lo), .val (.int up), .val (.ref b2_3), .val (.int (1 : Int32))] [(.ref b2_3)]))
      refine own_st (fun _ => XS.iload X12.here hx rfl (hb hby at_124) rfl) ?_
      show own_End p e below P (T12.setTop (mkF m 126 #[.val (.int p0), .val (.int p1), .val (.long q2), .second, .val (.int lo), .val (.int up), .val (.ref b2_3), .val (.int (1 : Int32))] [(.int lo), (.ref b2_3)]))
      refine own_st (fun _ => XS.i2l X12.here hx rfl (hb hby at_126) rfl) ?_
      show own_End p e below P (T12.setTop (mkF m 127 #[.val (.int p0), .val (.int p1), .val (.long q2), .second, .val (.int lo), .val (.int up), .val (.ref b2_3), .val (.int (1 : Int32))] [(.long (lo.toInt64)), (.ref b2_3)]))
      refine own_callV X12 hx hZ (y := (⟨"com/example/weiche/weiche/net/Interval", "contains", "(J)Z"⟩ : MethodName)) (z := (⟨"com/example/weiche/weiche/net/Interval", "contains", "(J)Z"⟩ : MethodName)) hown (hw _ (List.mem_of_getElem? (i := 43) rfl)) (hw _ (List.mem_of_getElem? (i := 44) rfl)) (notFace_of_selects (args := #[]) (mvT hZ (hw _ (List.mem_of_getElem? (i := 46) rfl)))) (hw _ (List.mem_of_getElem? (i := 46) rfl)) (hw _ (List.mem_of_getElem? (i := 45) rfl)) (hw _ (List.mem_of_getElem? (i := 6) rfl)) (hw _ (List.mem_of_getElem? (i := 47) rfl)) (by decide) f0_3 (own_m11 l Z a0 hw [] b2_3 (lo.toInt64) lo b1_3_3 up T3.heap n0 Z3 f0_3 f3_3 f1_3 f2_3 f4_3 f5_3) 0 (by decide) (by decide) eq12 (by decide) (by decide) (g := (mkF m 127 #[.val (.int p0), .val (.int p1), .val (.long q2), .second, .val (.int lo), .val (.int up), .val (.ref b2_3), .val (.int (1 : Int32))] [(.long (lo.toInt64)), (.ref b2_3)])) rfl (by rw [hml']; rfl) (argsL := [(.long (lo.toInt64))]) (rest := []) rfl (lenOf own_pd_J_Z_245 rfl) rfl (by show 2 * 0 + _ ≤ _; exact Nat.le_of_eq rfl) (hb hby at_127) (fun r17 T17 L17 X17 hQ17 => ?_)
      obtain ⟨rfl, Nq17, eq17⟩ := hQ17
      have N17 := Fr.app N12 Nq17
      show own_End p e below P (T17.setTop (mkF m 130 #[.val (.int p0), .val (.int p1), .val (.long q2), .second, .val (.int lo), .val (.int up), .val (.ref b2_3), .val (.int (1 : Int32))] [(.int (own_f11 (lo.toInt64) lo up))]))
      have hc18 : ¬ ((own_f11 (lo.toInt64) lo up) = (0 : Int32)) := by rw [own_cont]; have h1 := own_b32 lo; have h2 := own_b32 up; first | (rw [if_pos (by omega)]; try decide) | (rw [if_neg (by omega)]; try decide)
      refine own_st (fun _ => XS.ifNo X17.here hx rfl (hb hby at_130) rfl ((if0 _ _).trans (feq hc18).1)) ?_
      show own_End p e below P (T17.setTop (mkF m 133 #[.val (.int p0), .val (.int p1), .val (.long q2), .second, .val (.int lo), .val (.int up), .val (.ref b2_3), .val (.int (1 : Int32))] []))
      refine own_st (fun _ => XS.iconst X17.here hx rfl (hb hby at_133)) ?_
      show own_End p e below P (T17.setTop (mkF m 134 #[.val (.int p0), .val (.int p1), .val (.long q2), .second, .val (.int lo), .val (.int up), .val (.ref b2_3), .val (.int (1 : Int32))] [(.int (1 : Int32))]))
      refine own_st (fun _ => XS.goto X17.here hx rfl (pc0 := 134) (pc' := 138) rfl (hb hby at_134) (by decide) (by decide)) ?_
      show own_End p e below P (T17.setTop (mkF m 138 #[.val (.int p0), .val (.int p1), .val (.long q2), .second, .val (.int lo), .val (.int up), .val (.ref b2_3), .val (.int (1 : Int32))] [(.int (1 : Int32))]))
      refine own_st (fun _ => XS.istore X17.here hx rfl (hb hby at_138) rfl (l' := #[.val (.int p0), .val (.int p1), .val (.long q2), .second, .val (.int lo), .val (.int up), .val (.ref b2_3), .val (.int (1 : Int32))]) rfl) ?_
      show own_End p e below P (T17.setTop (mkF m 140 #[.val (.int p0), .val (.int p1), .val (.long q2), .second, .val (.int lo), .val (.int up), .val (.ref b2_3), .val (.int (1 : Int32))] []))
      refine own_st (fun _ => XS.iload X17.here hx rfl (hb hby at_140) rfl) ?_
      show own_End p e below P (T17.setTop (mkF m 142 #[.val (.int p0), .val (.int p1), .val (.long q2), .second, .val (.int lo), .val (.int up), .val (.ref b2_3), .val (.int (1 : Int32))] [(.int (1 : Int32))]))
      refine own_st (fun _ => XS.ifNo X17.here hx rfl (hb hby at_142) rfl ((if0 _ _).trans (feq (by decide : ¬ ((1 : Int32) = (0 : Int32)))).1)) ?_
      show own_End p e below P (T17.setTop (mkF m 145 #[.val (.int p0), .val (.int p1), .val (.long q2), .second, .val (.int lo), .val (.int up), .val (.ref b2_3), .val (.int (1 : Int32))] []))
      refine own_st (fun _ => XS.aload X17.here hx rfl (hb hby at_145) rfl rfl) ?_
      show own_End p e below P (T17.setTop (mkF m 147 #[.val (.int p0), .val (.int p1), .val (.long q2), .second, .val (.int lo), .val (.int up), .val (.ref b2_3), .val (.int (1 : Int32))] [(.ref b2_3)]))
      refine own_st (fun _ => XS.iload X17.here hx rfl (hb hby at_147) rfl) ?_
      show own_End p e below P (T17.setTop (mkF m 149 #[.val (.int p0), .val (.int p1), .val (.long q2), .second, .val (.int lo), .val (.int up), .val (.ref b2_3), .val (.int (1 : Int32))] [(.int up), (.ref b2_3)]))
      refine own_st (fun _ => XS.i2l X17.here hx rfl (hb hby at_149) rfl) ?_
      show own_End p e below P (T17.setTop (mkF m 150 #[.val (.int p0), .val (.int p1), .val (.long q2), .second, .val (.int lo), .val (.int up), .val (.ref b2_3), .val (.int (1 : Int32))] [(.long (up.toInt64)), (.ref b2_3)]))
      refine own_callV X17 hx hZ (y := (⟨"com/example/weiche/weiche/net/Interval", "contains", "(J)Z"⟩ : MethodName)) (z := (⟨"com/example/weiche/weiche/net/Interval", "contains", "(J)Z"⟩ : MethodName)) hown (hw _ (List.mem_of_getElem? (i := 43) rfl)) (hw _ (List.mem_of_getElem? (i := 44) rfl)) (notFace_of_selects (args := #[]) (mvT hZ (hw _ (List.mem_of_getElem? (i := 46) rfl)))) (hw _ (List.mem_of_getElem? (i := 46) rfl)) (hw _ (List.mem_of_getElem? (i := 45) rfl)) (hw _ (List.mem_of_getElem? (i := 6) rfl)) (hw _ (List.mem_of_getElem? (i := 47) rfl)) (by decide) f0_3 (own_m11 l Z a0 hw [] b2_3 (up.toInt64) lo b1_3_3 up T3.heap n0 Z3 f0_3 f3_3 f1_3 f2_3 f4_3 f5_3) 0 (by decide) (by decide) eq17 (by decide) (by decide) (g := (mkF m 150 #[.val (.int p0), .val (.int p1), .val (.long q2), .second, .val (.int lo), .val (.int up), .val (.ref b2_3), .val (.int (1 : Int32))] [(.long (up.toInt64)), (.ref b2_3)])) rfl (by rw [hml']; rfl) (argsL := [(.long (up.toInt64))]) (rest := []) rfl (lenOf own_pd_J_Z_245 rfl) rfl (by show 2 * 0 + _ ≤ _; exact Nat.le_of_eq rfl) (hb hby at_150) (fun r19 T19 L19 X19 hQ19 => ?_)
      obtain ⟨rfl, Nq19, eq19⟩ := hQ19
      have N19 := Fr.app N17 Nq19
      show own_End p e below P (T19.setTop (mkF m 153 #[.val (.int p0), .val (.int p1), .val (.long q2), .second, .val (.int lo), .val (.int up), .val (.ref b2_3), .val (.int (1 : Int32))] [(.int (own_f11 (up.toInt64) lo up))]))
      have hc20 : ¬ ((own_f11 (up.toInt64) lo up) = (0 : Int32)) := by rw [own_cont]; have h1 := own_b32 lo; have h2 := own_b32 up; first | (rw [if_pos (by omega)]; try decide) | (rw [if_neg (by omega)]; try decide)
      refine own_st (fun _ => XS.ifNo X19.here hx rfl (hb hby at_153) rfl ((if0 _ _).trans (feq hc20).1)) ?_
      show own_End p e below P (T19.setTop (mkF m 156 #[.val (.int p0), .val (.int p1), .val (.long q2), .second, .val (.int lo), .val (.int up), .val (.ref b2_3), .val (.int (1 : Int32))] []))
      refine own_st (fun _ => XS.iconst X19.here hx rfl (hb hby at_156)) ?_
      show own_End p e below P (T19.setTop (mkF m 157 #[.val (.int p0), .val (.int p1), .val (.long q2), .second, .val (.int lo), .val (.int up), .val (.ref b2_3), .val (.int (1 : Int32))] [(.int (1 : Int32))]))
      refine own_st (fun _ => XS.goto X19.here hx rfl (pc0 := 157) (pc' := 161) rfl (hb hby at_157) (by decide) (by decide)) ?_
      show own_End p e below P (T19.setTop (mkF m 161 #[.val (.int p0), .val (.int p1), .val (.long q2), .second, .val (.int lo), .val (.int up), .val (.ref b2_3), .val (.int (1 : Int32))] [(.int (1 : Int32))]))
      refine own_st (fun _ => XS.istore X19.here hx rfl (hb hby at_161) rfl (l' := #[.val (.int p0), .val (.int p1), .val (.long q2), .second, .val (.int lo), .val (.int up), .val (.ref b2_3), .val (.int (1 : Int32))]) rfl) ?_
      show own_End p e below P (T19.setTop (mkF m 163 #[.val (.int p0), .val (.int p1), .val (.long q2), .second, .val (.int lo), .val (.int up), .val (.ref b2_3), .val (.int (1 : Int32))] []))
      refine own_st (fun _ => XS.iload X19.here hx rfl (hb hby at_163) rfl) ?_
      show own_End p e below P (T19.setTop (mkF m 165 #[.val (.int p0), .val (.int p1), .val (.long q2), .second, .val (.int lo), .val (.int up), .val (.ref b2_3), .val (.int (1 : Int32))] [(.int (1 : Int32))]))
      refine own_st (fun _ => XS.ifNo X19.here hx rfl (hb hby at_165) rfl ((if0 _ _).trans (feq (by decide : ¬ ((1 : Int32) = (0 : Int32)))).1)) ?_
      show own_End p e below P (T19.setTop (mkF m 168 #[.val (.int p0), .val (.int p1), .val (.long q2), .second, .val (.int lo), .val (.int up), .val (.ref b2_3), .val (.int (1 : Int32))] []))
      refine own_st (fun _ => XS.aload X19.here hx rfl (hb hby at_168) rfl rfl) ?_
      show own_End p e below P (T19.setTop (mkF m 170 #[.val (.int p0), .val (.int p1), .val (.long q2), .second, .val (.int lo), .val (.int up), .val (.ref b2_3), .val (.int (1 : Int32))] [(.ref b2_3)]))
      refine own_st (fun _ => XS.iload X19.here hx rfl (hb hby at_170) rfl) ?_
      show own_End p e below P (T19.setTop (mkF m 172 #[.val (.int p0), .val (.int p1), .val (.long q2), .second, .val (.int lo), .val (.int up), .val (.ref b2_3), .val (.int (1 : Int32))] [(.int lo), (.ref b2_3)]))
      refine own_st (fun _ => XS.i2l X19.here hx rfl (hb hby at_172) rfl) ?_
      show own_End p e below P (T19.setTop (mkF m 173 #[.val (.int p0), .val (.int p1), .val (.long q2), .second, .val (.int lo), .val (.int up), .val (.ref b2_3), .val (.int (1 : Int32))] [(.long (lo.toInt64)), (.ref b2_3)]))
      refine own_st (fun _ => XS.lconst X19.here hx rfl (hb hby at_173)) ?_
      show own_End p e below P (T19.setTop (mkF m 174 #[.val (.int p0), .val (.int p1), .val (.long q2), .second, .val (.int lo), .val (.int up), .val (.ref b2_3), .val (.int (1 : Int32))] [(.long (1 : Int64)), (.long (lo.toInt64)), (.ref b2_3)]))
      refine own_st (fun _ => XS.lsub X19.here hx rfl (hb hby at_174) rfl) ?_
      show own_End p e below P (T19.setTop (mkF m 175 #[.val (.int p0), .val (.int p1), .val (.long q2), .second, .val (.int lo), .val (.int up), .val (.ref b2_3), .val (.int (1 : Int32))] [(.long ((lo.toInt64) - (1 : Int64))), (.ref b2_3)]))
      refine own_callV X19 hx hZ (y := (⟨"com/example/weiche/weiche/net/Interval", "contains", "(J)Z"⟩ : MethodName)) (z := (⟨"com/example/weiche/weiche/net/Interval", "contains", "(J)Z"⟩ : MethodName)) hown (hw _ (List.mem_of_getElem? (i := 43) rfl)) (hw _ (List.mem_of_getElem? (i := 44) rfl)) (notFace_of_selects (args := #[]) (mvT hZ (hw _ (List.mem_of_getElem? (i := 46) rfl)))) (hw _ (List.mem_of_getElem? (i := 46) rfl)) (hw _ (List.mem_of_getElem? (i := 45) rfl)) (hw _ (List.mem_of_getElem? (i := 6) rfl)) (hw _ (List.mem_of_getElem? (i := 47) rfl)) (by decide) f0_3 (own_m11 l Z a0 hw [] b2_3 ((lo.toInt64) - (1 : Int64)) lo b1_3_3 up T3.heap n0 Z3 f0_3 f3_3 f1_3 f2_3 f4_3 f5_3) 0 (by decide) (by decide) eq19 (by decide) (by decide) (g := (mkF m 175 #[.val (.int p0), .val (.int p1), .val (.long q2), .second, .val (.int lo), .val (.int up), .val (.ref b2_3), .val (.int (1 : Int32))] [(.long ((lo.toInt64) - (1 : Int64))), (.ref b2_3)])) rfl (by rw [hml']; rfl) (argsL := [(.long ((lo.toInt64) - (1 : Int64)))]) (rest := []) rfl (lenOf own_pd_J_Z_245 rfl) rfl (by show 2 * 0 + _ ≤ _; exact Nat.le_of_eq rfl) (hb hby at_175) (fun r21 T21 L21 X21 hQ21 => ?_)
      obtain ⟨rfl, Nq21, eq21⟩ := hQ21
      have N21 := Fr.app N19 Nq21
      show own_End p e below P (T21.setTop (mkF m 178 #[.val (.int p0), .val (.int p1), .val (.long q2), .second, .val (.int lo), .val (.int up), .val (.ref b2_3), .val (.int (1 : Int32))] [(.int (own_f11 ((lo.toInt64) - (1 : Int64)) lo up))]))
      have hc22 : (own_f11 ((lo.toInt64) - (1 : Int64)) lo up) = (0 : Int32) := by rw [own_cont]; have h1 := own_b32 lo; have h2 := own_b32 up; first | (rw [if_pos (by omega)]; try decide) | (rw [if_neg (by omega)]; try decide)
      refine own_st (fun _ => XS.ifNo X21.here hx rfl (hb hby at_178) rfl ((if0 _ _).trans (teq hc22).2)) ?_
      show own_End p e below P (T21.setTop (mkF m 181 #[.val (.int p0), .val (.int p1), .val (.long q2), .second, .val (.int lo), .val (.int up), .val (.ref b2_3), .val (.int (1 : Int32))] []))
      refine own_st (fun _ => XS.iconst X21.here hx rfl (hb hby at_181)) ?_
      show own_End p e below P (T21.setTop (mkF m 182 #[.val (.int p0), .val (.int p1), .val (.long q2), .second, .val (.int lo), .val (.int up), .val (.ref b2_3), .val (.int (1 : Int32))] [(.int (1 : Int32))]))
      refine own_st (fun _ => XS.goto X21.here hx rfl (pc0 := 182) (pc' := 186) rfl (hb hby at_182) (by decide) (by decide)) ?_
      show own_End p e below P (T21.setTop (mkF m 186 #[.val (.int p0), .val (.int p1), .val (.long q2), .second, .val (.int lo), .val (.int up), .val (.ref b2_3), .val (.int (1 : Int32))] [(.int (1 : Int32))]))
      refine own_st (fun _ => XS.istore X21.here hx rfl (hb hby at_186) rfl (l' := #[.val (.int p0), .val (.int p1), .val (.long q2), .second, .val (.int lo), .val (.int up), .val (.ref b2_3), .val (.int (1 : Int32))]) rfl) ?_
      show own_End p e below P (T21.setTop (mkF m 188 #[.val (.int p0), .val (.int p1), .val (.long q2), .second, .val (.int lo), .val (.int up), .val (.ref b2_3), .val (.int (1 : Int32))] []))
      refine own_st (fun _ => XS.iload X21.here hx rfl (hb hby at_188) rfl) ?_
      show own_End p e below P (T21.setTop (mkF m 190 #[.val (.int p0), .val (.int p1), .val (.long q2), .second, .val (.int lo), .val (.int up), .val (.ref b2_3), .val (.int (1 : Int32))] [(.int (1 : Int32))]))
      refine own_st (fun _ => XS.ifNo X21.here hx rfl (hb hby at_190) rfl ((if0 _ _).trans (feq (by decide : ¬ ((1 : Int32) = (0 : Int32)))).1)) ?_
      show own_End p e below P (T21.setTop (mkF m 193 #[.val (.int p0), .val (.int p1), .val (.long q2), .second, .val (.int lo), .val (.int up), .val (.ref b2_3), .val (.int (1 : Int32))] []))
      refine own_st (fun _ => XS.aload X21.here hx rfl (hb hby at_193) rfl rfl) ?_
      show own_End p e below P (T21.setTop (mkF m 195 #[.val (.int p0), .val (.int p1), .val (.long q2), .second, .val (.int lo), .val (.int up), .val (.ref b2_3), .val (.int (1 : Int32))] [(.ref b2_3)]))
      refine own_st (fun _ => XS.iload X21.here hx rfl (hb hby at_195) rfl) ?_
      show own_End p e below P (T21.setTop (mkF m 197 #[.val (.int p0), .val (.int p1), .val (.long q2), .second, .val (.int lo), .val (.int up), .val (.ref b2_3), .val (.int (1 : Int32))] [(.int up), (.ref b2_3)]))
      refine own_st (fun _ => XS.i2l X21.here hx rfl (hb hby at_197) rfl) ?_
      show own_End p e below P (T21.setTop (mkF m 198 #[.val (.int p0), .val (.int p1), .val (.long q2), .second, .val (.int lo), .val (.int up), .val (.ref b2_3), .val (.int (1 : Int32))] [(.long (up.toInt64)), (.ref b2_3)]))
      refine own_st (fun _ => XS.lconst X21.here hx rfl (hb hby at_198)) ?_
      show own_End p e below P (T21.setTop (mkF m 199 #[.val (.int p0), .val (.int p1), .val (.long q2), .second, .val (.int lo), .val (.int up), .val (.ref b2_3), .val (.int (1 : Int32))] [(.long (1 : Int64)), (.long (up.toInt64)), (.ref b2_3)]))
      refine own_st (fun _ => XS.ladd X21.here hx rfl (hb hby at_199) rfl) ?_
      show own_End p e below P (T21.setTop (mkF m 200 #[.val (.int p0), .val (.int p1), .val (.long q2), .second, .val (.int lo), .val (.int up), .val (.ref b2_3), .val (.int (1 : Int32))] [(.long ((up.toInt64) + (1 : Int64))), (.ref b2_3)]))
      refine own_callV X21 hx hZ (y := (⟨"com/example/weiche/weiche/net/Interval", "contains", "(J)Z"⟩ : MethodName)) (z := (⟨"com/example/weiche/weiche/net/Interval", "contains", "(J)Z"⟩ : MethodName)) hown (hw _ (List.mem_of_getElem? (i := 43) rfl)) (hw _ (List.mem_of_getElem? (i := 44) rfl)) (notFace_of_selects (args := #[]) (mvT hZ (hw _ (List.mem_of_getElem? (i := 46) rfl)))) (hw _ (List.mem_of_getElem? (i := 46) rfl)) (hw _ (List.mem_of_getElem? (i := 45) rfl)) (hw _ (List.mem_of_getElem? (i := 6) rfl)) (hw _ (List.mem_of_getElem? (i := 47) rfl)) (by decide) f0_3 (own_m11 l Z a0 hw [] b2_3 ((up.toInt64) + (1 : Int64)) lo b1_3_3 up T3.heap n0 Z3 f0_3 f3_3 f1_3 f2_3 f4_3 f5_3) 0 (by decide) (by decide) eq21 (by decide) (by decide) (g := (mkF m 200 #[.val (.int p0), .val (.int p1), .val (.long q2), .second, .val (.int lo), .val (.int up), .val (.ref b2_3), .val (.int (1 : Int32))] [(.long ((up.toInt64) + (1 : Int64))), (.ref b2_3)])) rfl (by rw [hml']; rfl) (argsL := [(.long ((up.toInt64) + (1 : Int64)))]) (rest := []) rfl (lenOf own_pd_J_Z_245 rfl) rfl (by show 2 * 0 + _ ≤ _; exact Nat.le_of_eq rfl) (hb hby at_200) (fun r23 T23 L23 X23 hQ23 => ?_)
      obtain ⟨rfl, Nq23, eq23⟩ := hQ23
      have N23 := Fr.app N21 Nq23
      show own_End p e below P (T23.setTop (mkF m 203 #[.val (.int p0), .val (.int p1), .val (.long q2), .second, .val (.int lo), .val (.int up), .val (.ref b2_3), .val (.int (1 : Int32))] [(.int (own_f11 ((up.toInt64) + (1 : Int64)) lo up))]))
      have hc24 : (own_f11 ((up.toInt64) + (1 : Int64)) lo up) = (0 : Int32) := by rw [own_cont]; have h1 := own_b32 lo; have h2 := own_b32 up; first | (rw [if_pos (by omega)]; try decide) | (rw [if_neg (by omega)]; try decide)
      refine own_st (fun _ => XS.ifNo X23.here hx rfl (hb hby at_203) rfl ((if0 _ _).trans (teq hc24).2)) ?_
      show own_End p e below P (T23.setTop (mkF m 206 #[.val (.int p0), .val (.int p1), .val (.long q2), .second, .val (.int lo), .val (.int up), .val (.ref b2_3), .val (.int (1 : Int32))] []))
      refine own_st (fun _ => XS.iconst X23.here hx rfl (hb hby at_206)) ?_
      show own_End p e below P (T23.setTop (mkF m 207 #[.val (.int p0), .val (.int p1), .val (.long q2), .second, .val (.int lo), .val (.int up), .val (.ref b2_3), .val (.int (1 : Int32))] [(.int (1 : Int32))]))
      refine own_st (fun _ => XS.goto X23.here hx rfl (pc0 := 207) (pc' := 211) rfl (hb hby at_207) (by decide) (by decide)) ?_
      show own_End p e below P (T23.setTop (mkF m 211 #[.val (.int p0), .val (.int p1), .val (.long q2), .second, .val (.int lo), .val (.int up), .val (.ref b2_3), .val (.int (1 : Int32))] [(.int (1 : Int32))]))
      refine own_st (fun _ => XS.istore X23.here hx rfl (hb hby at_211) rfl (l' := #[.val (.int p0), .val (.int p1), .val (.long q2), .second, .val (.int lo), .val (.int up), .val (.ref b2_3), .val (.int (1 : Int32))]) rfl) ?_
      show own_End p e below P (T23.setTop (mkF m 213 #[.val (.int p0), .val (.int p1), .val (.long q2), .second, .val (.int lo), .val (.int up), .val (.ref b2_3), .val (.int (1 : Int32))] []))
      refine own_st (fun _ => XS.iload X23.here hx rfl (hb hby at_213) rfl) ?_
      show own_End p e below P (T23.setTop (mkF m 215 #[.val (.int p0), .val (.int p1), .val (.long q2), .second, .val (.int lo), .val (.int up), .val (.ref b2_3), .val (.int (1 : Int32))] [(.int (1 : Int32))]))
      refine own_st (fun _ => XS.ifNo X23.here hx rfl (hb hby at_215) rfl ((if0 _ _).trans (feq (by decide : ¬ ((1 : Int32) = (0 : Int32)))).1)) ?_
      show own_End p e below P (T23.setTop (mkF m 218 #[.val (.int p0), .val (.int p1), .val (.long q2), .second, .val (.int lo), .val (.int up), .val (.ref b2_3), .val (.int (1 : Int32))] []))
      refine own_st (fun _ => XS.aload X23.here hx rfl (hb hby at_218) rfl rfl) ?_
      show own_End p e below P (T23.setTop (mkF m 220 #[.val (.int p0), .val (.int p1), .val (.long q2), .second, .val (.int lo), .val (.int up), .val (.ref b2_3), .val (.int (1 : Int32))] [(.ref b2_3)]))
      refine own_st (fun _ => XS.iload X23.here hx rfl (hb hby at_220) rfl) ?_
      show own_End p e below P (T23.setTop (mkF m 222 #[.val (.int p0), .val (.int p1), .val (.long q2), .second, .val (.int lo), .val (.int up), .val (.ref b2_3), .val (.int (1 : Int32))] [(.int up), (.ref b2_3)]))
      refine own_st (fun _ => XS.i2l X23.here hx rfl (hb hby at_222) rfl) ?_
      show own_End p e below P (T23.setTop (mkF m 223 #[.val (.int p0), .val (.int p1), .val (.long q2), .second, .val (.int lo), .val (.int up), .val (.ref b2_3), .val (.int (1 : Int32))] [(.long (up.toInt64)), (.ref b2_3)]))
      refine own_callV X23 hx hZ (y := (⟨"com/example/weiche/weiche/net/Interval", "isPast", "(J)Z"⟩ : MethodName)) (z := (⟨"com/example/weiche/weiche/net/Interval", "isPast", "(J)Z"⟩ : MethodName)) hown (hw _ (List.mem_of_getElem? (i := 63) rfl)) (hw _ (List.mem_of_getElem? (i := 49) rfl)) (notFace_of_selects (args := #[]) (mvT hZ (hw _ (List.mem_of_getElem? (i := 51) rfl)))) (hw _ (List.mem_of_getElem? (i := 51) rfl)) (hw _ (List.mem_of_getElem? (i := 50) rfl)) (hw _ (List.mem_of_getElem? (i := 6) rfl)) (hw _ (List.mem_of_getElem? (i := 52) rfl)) (by decide) f0_3 (own_m10 l Z a0 hw [] b2_3 (up.toInt64) b1_3_3 up T3.heap n0 Z3 f3_3 f2_3 f4_3 f5_3) 0 (by decide) (by decide) eq23 (by decide) (by decide) (g := (mkF m 223 #[.val (.int p0), .val (.int p1), .val (.long q2), .second, .val (.int lo), .val (.int up), .val (.ref b2_3), .val (.int (1 : Int32))] [(.long (up.toInt64)), (.ref b2_3)])) rfl (by rw [hml']; rfl) (argsL := [(.long (up.toInt64))]) (rest := []) rfl (lenOf own_pd_J_Z_245 rfl) rfl (by show 2 * 0 + _ ≤ _; exact Nat.le_of_eq rfl) (hb hby at_223) (fun r25 T25 L25 X25 hQ25 => ?_)
      obtain ⟨rfl, Nq25, eq25⟩ := hQ25
      have N25 := Fr.app N23 Nq25
      show own_End p e below P (T25.setTop (mkF m 226 #[.val (.int p0), .val (.int p1), .val (.long q2), .second, .val (.int lo), .val (.int up), .val (.ref b2_3), .val (.int (1 : Int32))] [(.int (own_f10 (up.toInt64) up))]))
      have hc26 : (own_f10 (up.toInt64) up) = (0 : Int32) := by rw [own_past]; have h1 := own_b32 lo; have h2 := own_b32 up; first | (rw [if_pos (by omega)]; try decide) | (rw [if_neg (by omega)]; try decide)
      refine own_st (fun _ => XS.ifNo X25.here hx rfl (hb hby at_226) rfl ((if0 _ _).trans (teq hc26).2)) ?_
      show own_End p e below P (T25.setTop (mkF m 229 #[.val (.int p0), .val (.int p1), .val (.long q2), .second, .val (.int lo), .val (.int up), .val (.ref b2_3), .val (.int (1 : Int32))] []))
      refine own_st (fun _ => XS.iconst X25.here hx rfl (hb hby at_229)) ?_
      show own_End p e below P (T25.setTop (mkF m 230 #[.val (.int p0), .val (.int p1), .val (.long q2), .second, .val (.int lo), .val (.int up), .val (.ref b2_3), .val (.int (1 : Int32))] [(.int (1 : Int32))]))
      refine own_st (fun _ => XS.goto X25.here hx rfl (pc0 := 230) (pc' := 234) rfl (hb hby at_230) (by decide) (by decide)) ?_
      show own_End p e below P (T25.setTop (mkF m 234 #[.val (.int p0), .val (.int p1), .val (.long q2), .second, .val (.int lo), .val (.int up), .val (.ref b2_3), .val (.int (1 : Int32))] [(.int (1 : Int32))]))
      refine own_st (fun _ => XS.istore X25.here hx rfl (hb hby at_234) rfl (l' := #[.val (.int p0), .val (.int p1), .val (.long q2), .second, .val (.int lo), .val (.int up), .val (.ref b2_3), .val (.int (1 : Int32))]) rfl) ?_
      show own_End p e below P (T25.setTop (mkF m 236 #[.val (.int p0), .val (.int p1), .val (.long q2), .second, .val (.int lo), .val (.int up), .val (.ref b2_3), .val (.int (1 : Int32))] []))
      refine own_st (fun _ => XS.iload X25.here hx rfl (hb hby at_236) rfl) ?_
      show own_End p e below P (T25.setTop (mkF m 238 #[.val (.int p0), .val (.int p1), .val (.long q2), .second, .val (.int lo), .val (.int up), .val (.ref b2_3), .val (.int (1 : Int32))] [(.int (1 : Int32))]))
      refine own_st (fun _ => XS.ifNo X25.here hx rfl (hb hby at_238) rfl ((if0 _ _).trans (feq (by decide : ¬ ((1 : Int32) = (0 : Int32)))).1)) ?_
      show own_End p e below P (T25.setTop (mkF m 241 #[.val (.int p0), .val (.int p1), .val (.long q2), .second, .val (.int lo), .val (.int up), .val (.ref b2_3), .val (.int (1 : Int32))] []))
      refine own_st (fun _ => XS.aload X25.here hx rfl (hb hby at_241) rfl rfl) ?_
      show own_End p e below P (T25.setTop (mkF m 243 #[.val (.int p0), .val (.int p1), .val (.long q2), .second, .val (.int lo), .val (.int up), .val (.ref b2_3), .val (.int (1 : Int32))] [(.ref b2_3)]))
      refine own_st (fun _ => XS.iload X25.here hx rfl (hb hby at_243) rfl) ?_
      show own_End p e below P (T25.setTop (mkF m 245 #[.val (.int p0), .val (.int p1), .val (.long q2), .second, .val (.int lo), .val (.int up), .val (.ref b2_3), .val (.int (1 : Int32))] [(.int up), (.ref b2_3)]))
      refine own_st (fun _ => XS.i2l X25.here hx rfl (hb hby at_245) rfl) ?_
      show own_End p e below P (T25.setTop (mkF m 246 #[.val (.int p0), .val (.int p1), .val (.long q2), .second, .val (.int lo), .val (.int up), .val (.ref b2_3), .val (.int (1 : Int32))] [(.long (up.toInt64)), (.ref b2_3)]))
      refine own_st (fun _ => XS.lconst X25.here hx rfl (hb hby at_246)) ?_
      show own_End p e below P (T25.setTop (mkF m 247 #[.val (.int p0), .val (.int p1), .val (.long q2), .second, .val (.int lo), .val (.int up), .val (.ref b2_3), .val (.int (1 : Int32))] [(.long (1 : Int64)), (.long (up.toInt64)), (.ref b2_3)]))
      refine own_st (fun _ => XS.ladd X25.here hx rfl (hb hby at_247) rfl) ?_
      show own_End p e below P (T25.setTop (mkF m 248 #[.val (.int p0), .val (.int p1), .val (.long q2), .second, .val (.int lo), .val (.int up), .val (.ref b2_3), .val (.int (1 : Int32))] [(.long ((up.toInt64) + (1 : Int64))), (.ref b2_3)]))
      refine own_callV X25 hx hZ (y := (⟨"com/example/weiche/weiche/net/Interval", "isPast", "(J)Z"⟩ : MethodName)) (z := (⟨"com/example/weiche/weiche/net/Interval", "isPast", "(J)Z"⟩ : MethodName)) hown (hw _ (List.mem_of_getElem? (i := 63) rfl)) (hw _ (List.mem_of_getElem? (i := 49) rfl)) (notFace_of_selects (args := #[]) (mvT hZ (hw _ (List.mem_of_getElem? (i := 51) rfl)))) (hw _ (List.mem_of_getElem? (i := 51) rfl)) (hw _ (List.mem_of_getElem? (i := 50) rfl)) (hw _ (List.mem_of_getElem? (i := 6) rfl)) (hw _ (List.mem_of_getElem? (i := 52) rfl)) (by decide) f0_3 (own_m10 l Z a0 hw [] b2_3 ((up.toInt64) + (1 : Int64)) b1_3_3 up T3.heap n0 Z3 f3_3 f2_3 f4_3 f5_3) 0 (by decide) (by decide) eq25 (by decide) (by decide) (g := (mkF m 248 #[.val (.int p0), .val (.int p1), .val (.long q2), .second, .val (.int lo), .val (.int up), .val (.ref b2_3), .val (.int (1 : Int32))] [(.long ((up.toInt64) + (1 : Int64))), (.ref b2_3)])) rfl (by rw [hml']; rfl) (argsL := [(.long ((up.toInt64) + (1 : Int64)))]) (rest := []) rfl (lenOf own_pd_J_Z_245 rfl) rfl (by show 2 * 0 + _ ≤ _; exact Nat.le_of_eq rfl) (hb hby at_248) (fun r27 T27 L27 X27 hQ27 => ?_)
      obtain ⟨rfl, Nq27, eq27⟩ := hQ27
      have N27 := Fr.app N25 Nq27
      show own_End p e below P (T27.setTop (mkF m 251 #[.val (.int p0), .val (.int p1), .val (.long q2), .second, .val (.int lo), .val (.int up), .val (.ref b2_3), .val (.int (1 : Int32))] [(.int (own_f10 ((up.toInt64) + (1 : Int64)) up))]))
      have hc28 : ¬ ((own_f10 ((up.toInt64) + (1 : Int64)) up) = (0 : Int32)) := by rw [own_past]; have h1 := own_b32 lo; have h2 := own_b32 up; first | (rw [if_pos (by omega)]; try decide) | (rw [if_neg (by omega)]; try decide)
      refine own_st (fun _ => XS.ifNo X27.here hx rfl (hb hby at_251) rfl ((if0 _ _).trans (feq hc28).1)) ?_
      show own_End p e below P (T27.setTop (mkF m 254 #[.val (.int p0), .val (.int p1), .val (.long q2), .second, .val (.int lo), .val (.int up), .val (.ref b2_3), .val (.int (1 : Int32))] []))
      refine own_st (fun _ => XS.iconst X27.here hx rfl (hb hby at_254)) ?_
      show own_End p e below P (T27.setTop (mkF m 255 #[.val (.int p0), .val (.int p1), .val (.long q2), .second, .val (.int lo), .val (.int up), .val (.ref b2_3), .val (.int (1 : Int32))] [(.int (1 : Int32))]))
      refine own_st (fun _ => XS.goto X27.here hx rfl (pc0 := 255) (pc' := 259) rfl (hb hby at_255) (by decide) (by decide)) ?_
      show own_End p e below P (T27.setTop (mkF m 259 #[.val (.int p0), .val (.int p1), .val (.long q2), .second, .val (.int lo), .val (.int up), .val (.ref b2_3), .val (.int (1 : Int32))] [(.int (1 : Int32))]))
      refine own_st (fun _ => XS.istore X27.here hx rfl (hb hby at_259) rfl (l' := #[.val (.int p0), .val (.int p1), .val (.long q2), .second, .val (.int lo), .val (.int up), .val (.ref b2_3), .val (.int (1 : Int32))]) rfl) ?_
      show own_End p e below P (T27.setTop (mkF m 261 #[.val (.int p0), .val (.int p1), .val (.long q2), .second, .val (.int lo), .val (.int up), .val (.ref b2_3), .val (.int (1 : Int32))] []))
      refine own_st (fun _ => XS.iload X27.here hx rfl (hb hby at_261) rfl) ?_
      show own_End p e below P (T27.setTop (mkF m 263 #[.val (.int p0), .val (.int p1), .val (.long q2), .second, .val (.int lo), .val (.int up), .val (.ref b2_3), .val (.int (1 : Int32))] [(.int (1 : Int32))]))
      exact own_retN X27 hx hlk hP (t := .boolean) (by simp) hrt (hb hby at_263) (by decide) (by decide) ⟨rfl, N27⟩
    by_cases hc13 : (up.toInt64) < q2
    · refine own_st (fun _ => XS.ifNo X12.here hx rfl (hb hby at_99) rfl ((if0 _ _).trans (tlt (own_gt.mpr hc13)).2.2.2)) ?_
      show own_End p e below P (T12.setTop (mkF m 102 #[.val (.int p0), .val (.int p1), .val (.long q2), .second, .val (.int lo), .val (.int up), .val (.ref b2_3), .val (.int (1 : Int32))] [(.int (own_f10 q2 up))]))
      refine own_st (fun _ => XS.iconst X12.here hx rfl (hb hby at_102)) ?_
      show own_End p e below P (T12.setTop (mkF m 103 #[.val (.int p0), .val (.int p1), .val (.long q2), .second, .val (.int lo), .val (.int up), .val (.ref b2_3), .val (.int (1 : Int32))] [(.int (1 : Int32)), (.int (own_f10 q2 up))]))
      refine own_st (fun _ => XS.goto X12.here hx rfl (pc0 := 103) (pc' := 107) rfl (hb hby at_103) (by decide) (by decide)) ?_
      show own_End p e below P (T12.setTop (mkF m 107 #[.val (.int p0), .val (.int p1), .val (.long q2), .second, .val (.int lo), .val (.int up), .val (.ref b2_3), .val (.int (1 : Int32))] [(.int (1 : Int32)), (.int (own_f10 q2 up))]))
      exact J15 _ ((if_pos hc13).trans (rfl)).symm
    · refine own_st (fun _ => XS.ifYes X12.here hx rfl (pc0 := 99) (pc' := 106) rfl (hb hby at_99) rfl ((if0 _ _).trans (flt (mt own_gt.mp hc13)).2.2.2) (by decide) (by decide)) ?_
      show own_End p e below P (T12.setTop (mkF m 106 #[.val (.int p0), .val (.int p1), .val (.long q2), .second, .val (.int lo), .val (.int up), .val (.ref b2_3), .val (.int (1 : Int32))] [(.int (own_f10 q2 up))]))
      refine own_st (fun _ => XS.iconst X12.here hx rfl (hb hby at_106)) ?_
      show own_End p e below P (T12.setTop (mkF m 107 #[.val (.int p0), .val (.int p1), .val (.long q2), .second, .val (.int lo), .val (.int up), .val (.ref b2_3), .val (.int (1 : Int32))] [(.int (0 : Int32)), (.int (own_f10 q2 up))]))
      exact J15 _ ((if_neg hc13).trans (rfl)).symm
  by_cases hc7 : q2 < (lo.toInt64)
  · refine own_st (fun _ => XS.ifYes X6.here hx rfl (pc0 := 57) (pc' := 72) rfl (hb hby at_57) rfl ((if0 _ _).trans (tlt (own_lt.mpr hc7)).1) (by decide) (by decide)) ?_
    show own_End p e below P (T6.setTop (mkF m 72 #[.val (.int p0), .val (.int p1), .val (.long q2), .second, .val (.int lo), .val (.int up), .val (.ref b2_3), .val (.int (1 : Int32))] [(.int (own_f11 q2 lo up))]))
    refine own_st (fun _ => XS.iconst X6.here hx rfl (hb hby at_72)) ?_
    show own_End p e below P (T6.setTop (mkF m 73 #[.val (.int p0), .val (.int p1), .val (.long q2), .second, .val (.int lo), .val (.int up), .val (.ref b2_3), .val (.int (1 : Int32))] [(.int (0 : Int32)), (.int (own_f11 q2 lo up))]))
    exact J10 _ ((if_pos hc7).trans (rfl)).symm
  · refine own_st (fun _ => XS.ifNo X6.here hx rfl (hb hby at_57) rfl ((if0 _ _).trans (flt (mt own_lt.mp hc7)).1)) ?_
    show own_End p e below P (T6.setTop (mkF m 60 #[.val (.int p0), .val (.int p1), .val (.long q2), .second, .val (.int lo), .val (.int up), .val (.ref b2_3), .val (.int (1 : Int32))] [(.int (own_f11 q2 lo up))]))
    refine own_st (fun _ => XS.lloadN X6.here hx rfl (hb hby at_60) rfl) ?_
    show own_End p e below P (T6.setTop (mkF m 61 #[.val (.int p0), .val (.int p1), .val (.long q2), .second, .val (.int lo), .val (.int up), .val (.ref b2_3), .val (.int (1 : Int32))] [(.long q2), (.int (own_f11 q2 lo up))]))
    refine own_st (fun _ => XS.iload X6.here hx rfl (hb hby at_61) rfl) ?_
    show own_End p e below P (T6.setTop (mkF m 63 #[.val (.int p0), .val (.int p1), .val (.long q2), .second, .val (.int lo), .val (.int up), .val (.ref b2_3), .val (.int (1 : Int32))] [(.int up), (.long q2), (.int (own_f11 q2 lo up))]))
    refine own_st (fun _ => XS.i2l X6.here hx rfl (hb hby at_63) rfl) ?_
    show own_End p e below P (T6.setTop (mkF m 64 #[.val (.int p0), .val (.int p1), .val (.long q2), .second, .val (.int lo), .val (.int up), .val (.ref b2_3), .val (.int (1 : Int32))] [(.long (up.toInt64)), (.long q2), (.int (own_f11 q2 lo up))]))
    refine own_st (fun _ => XS.lcmp X6.here hx rfl (hb hby at_64) rfl) ?_
    show own_End p e below P (T6.setTop (mkF m 65 #[.val (.int p0), .val (.int p1), .val (.long q2), .second, .val (.int lo), .val (.int up), .val (.ref b2_3), .val (.int (1 : Int32))] [(.int (lcmpW q2 (up.toInt64))), (.int (own_f11 q2 lo up))]))
    by_cases hc29 : (up.toInt64) < q2
    · refine own_st (fun _ => XS.ifYes X6.here hx rfl (pc0 := 65) (pc' := 72) rfl (hb hby at_65) rfl ((if0 _ _).trans (tlt (own_gt.mpr hc29)).2.2.1) (by decide) (by decide)) ?_
      show own_End p e below P (T6.setTop (mkF m 72 #[.val (.int p0), .val (.int p1), .val (.long q2), .second, .val (.int lo), .val (.int up), .val (.ref b2_3), .val (.int (1 : Int32))] [(.int (own_f11 q2 lo up))]))
      refine own_st (fun _ => XS.iconst X6.here hx rfl (hb hby at_72)) ?_
      show own_End p e below P (T6.setTop (mkF m 73 #[.val (.int p0), .val (.int p1), .val (.long q2), .second, .val (.int lo), .val (.int up), .val (.ref b2_3), .val (.int (1 : Int32))] [(.int (0 : Int32)), (.int (own_f11 q2 lo up))]))
      exact J10 _ ((if_neg hc7).trans ((if_pos hc29).trans (rfl))).symm
    · refine own_st (fun _ => XS.ifNo X6.here hx rfl (hb hby at_65) rfl ((if0 _ _).trans (flt (mt own_gt.mp hc29)).2.2.1)) ?_
      show own_End p e below P (T6.setTop (mkF m 68 #[.val (.int p0), .val (.int p1), .val (.long q2), .second, .val (.int lo), .val (.int up), .val (.ref b2_3), .val (.int (1 : Int32))] [(.int (own_f11 q2 lo up))]))
      refine own_st (fun _ => XS.iconst X6.here hx rfl (hb hby at_68)) ?_
      show own_End p e below P (T6.setTop (mkF m 69 #[.val (.int p0), .val (.int p1), .val (.long q2), .second, .val (.int lo), .val (.int up), .val (.ref b2_3), .val (.int (1 : Int32))] [(.int (1 : Int32)), (.int (own_f11 q2 lo up))]))
      refine own_st (fun _ => XS.goto X6.here hx rfl (pc0 := 69) (pc' := 73) rfl (hb hby at_69) (by decide) (by decide)) ?_
      show own_End p e below P (T6.setTop (mkF m 73 #[.val (.int p0), .val (.int p1), .val (.long q2), .second, .val (.int lo), .val (.int up), .val (.ref b2_3), .val (.int (1 : Int32))] [(.int (1 : Int32)), (.int (own_f11 q2 lo up))]))
      exact J10 _ ((if_neg hc7).trans ((if_neg hc29).trans (rfl))).symm
set_option maxRecDepth 65536 in
set_option maxHeartbeats 40000000 in
theorem comes_1 {Post : Tables → Env → Array Value → State → Outcome → State → Prop} (hpost : ∀ tb e args s v u, (limb_1_1.after args s (.returned v) u = true ∧ limb_1_2.after args s (.returned v) u = true ∧ True) → FrameEnd s (.returned v) u (Jvm.fieldLocs frame_1_writes args s ++ Jvm.arrayLocs frame_1_arrays args s ++ Jvm.staticLocs frame_1_statics s) 16 128 → Post tb e args s (.returned v) u) :
    ArmFor flags0 classFile x code maxLocals ret World_1 tables_1 room_1 Calls_1 rest_1 Pre_1 Post := by
  intro l hfl _ _ p e ha hc hk s m args below hf hA hF happ hP
  obtain ⟨hcalls, hrest, hpre⟩ := hP
  obtain ⟨-, -, -, hnamed, -, -, -, hat⟩ := (Spec.applies_iff hf).mp happ
  obtain ⟨hg, hn⟩ := and_e (Cond.before_iff.mp (show (Jvm.Cond.and given_1 narrow_1).before args s = true from hpre))
  obtain ⟨k1, l1⟩ := and_e hg
  obtain ⟨k2, l2⟩ := and_e l1
  obtain ⟨k3, l3⟩ := and_e l2
  obtain ⟨w0, w1, w2, rfl⟩ : ∃ w0 w1 w2 : Value, args = #[w0, w1, w2] := by
    have hs : args.size = 3 := by simpa [Cond.value, given_1] using k1
    obtain ⟨L⟩ := args
    match L, hs with
    | [w0, w1, w2], _ => exact ⟨w0, w1, w2, rfl⟩
  have hw := fun d (hd : d ∈ tables_1) => atoms_spec (ws := Jvm.Cond.code x code maxLocals ret :: tables_1) hat d (List.mem_cons_of_mem _ hd)
  have hfit : Fit s := fun {y c} hc i hi => by
    obtain ⟨ha, rfl⟩ := Array.getElem?_eq_some_iff.mp hc
    have q := List.all_eq_true.mp ((Array.all_eq_true_iff_forall_mem.mp hF) _ (Array.getElem_mem ha)) i (List.mem_range.mpr hi)
    simpa [Array.getElem?_eq_getElem hi] using q
  obtain ⟨i0, ei0⟩ := is_v k2
  obtain rfl : w0 = (.int i0) := Option.some.inj ei0
  obtain ⟨i1, ei1⟩ := is_v k3
  obtain rfl : w1 = (.int i1) := Option.some.inj ei1
  obtain ⟨i2, ei2⟩ := isL_v l3
  obtain rfl : w2 = (.long i2) := Option.some.inj ei2
  obtain ⟨n, o, h1, h2, h3, _, L, rfl, ⟨rfl, N⟩, hq⟩ := own_m0 l s _ hw tables_1 i0 i1 i2  s.heap s.heap.size (Nat.le_refl _)  p e ha hc hk s m _ below hf ((Spec.applies_iff_loose hf).mp happ).1 ⟨rfl, State.Warmed39.refl s, rfl⟩ trivial
  refine ⟨n, _, h1, h2, h3, hpost _ _ _ _ _ _ ⟨Cond.after_iff.mpr rfl, Cond.after_iff.mpr (eq_i res_at (Term.int_eval (1)) rfl), trivial⟩ ⟨hq.1, hq.2.1, (hq.2.2.sift fun y hy => Or.inr (N y hy)).mono (by decide) (by decide)⟩⟩
theorem main_1_1 : Claimed_1_1 := comes_1 fun _ _ _ _ _ _ h hF => ⟨h.1, hF⟩
theorem main_1_2 : Claimed_1_2 := comes_1 fun _ _ _ _ _ _ h hF => ⟨h.2.1, hF⟩
end Jvm.Pilot.@@N@@
namespace Jvm.Pilot.@@N@@
open Jvm Jvm.ClassFile Sem Op Lib Jvm.Free Jvm.Stand Jvm.Pilot.@@N@@.Jvm.D
/-! MADE BY PROGRAM (witnessworld.py) out of the Statement's table words and the real class files: 11 classes; the members and pool entries that the words name. The judged class is class 1, her method 1. -/
namespace start1
open Jvm.ClassFile
def u (s : String) : CpInfo := .utf8 (stringToUtf16 s)
/-- a pool by its gaps: so many unusable entries, then the entry; so many at the end -/
def gap : Nat → List CpInfo → List CpInfo
  | 0, r => r
  | n + 1, r => .unusable :: gap n r
def poolList (es : List (Nat × CpInfo)) (last : Nat) : List CpInfo := es.foldr (fun e r => gap e.1 (e.2 :: r)) (gap last [])
def pool (es : List (Nat × CpInfo)) (last : Nat) : Array CpInfo := ⟨poolList es last⟩
def fileOf (pool : Array CpInfo) (this : Nat) (attrs : Array Attribute := #[]) (ms : Array MethodInfo := #[]) (fl : Nat := 33) (sup : Nat := 0) (ifs : Array Nat := #[]) (fds : Array FieldInfo := #[]) : ClassFile where
  minorVersion := 0
  majorVersion := 65
  constantPool := pool
  accessFlags := fl
  thisClass := this
  superClass := sup
  interfaces := ifs
  fields := fds
  methods := ms
  attributes := attrs
def plain (name : String) (sup : Option ClassId) : Class where
  name := name
  kind := .ordinary
  loader := none
  accessFlags := 33
  super := sup
  interfaces := #[]
  cf := none
  fields := #[]
  methods := #[]
  instanceTypes := #[]
  staticTypes := #[]
  resolved := #[]
  callSites := []
  init := .initialized
  statics := none
  mirror := none

def pool0 : Array CpInfo := pool [(5, u "<init>"), (0, u "()V"), (1, .class_ 10), (1, u "java/lang/Object")] 113

def k0c0 : Code := { maxStack := 0, maxLocals := 1, code := object_method_1_code, exceptionTable := #[], attributes := #[] }
def k0m0 : Method := { name := "<init>", desc := "()V", sig := { parameters := [], returnType := none }, accessFlags := 1, code := some k0c0 }
/-- java/lang/Object -/
def k0 : Class := { plain "java/lang/Object" none with
  accessFlags := 33
  interfaces := #[]
  cf := some (fileOf pool0 8 #[] #[{ accessFlags := 1, nameIndex := 5, descriptorIndex := 6, attributes := #[] }] 33 0 #[] #[])
  fields := #[]
  methods := #[k0m0]
  instanceTypes := #[]
  staticTypes := #[]
  resolved := Array.replicate 124 none
  statics := none }

def pool1 : Array CpInfo := pool [(2, .class_ 4), (1, u "java/lang/Object"), (0, u "<init>"), (0, u "()V"), (0, .methodref 8 9), (0, .class_ 10), (0, .nameAndType 11 12), (0, u "java/lang/Math"), (0, u "max"), (0, u "(II)I"), (0, .methodref 14 15), (0, .class_ 16), (0, .nameAndType 17 18), (0, u "com/example/weiche/weiche/net/Interval"), (0, u "bounded"), (0, u "(II)Lcom/example/weiche/weiche/net/Interval;"), (0, .methodref 14 20), (0, .nameAndType 21 22), (0, u "lower"), (0, u "()I"), (0, .methodref 14 24), (0, .nameAndType 25 26), (0, u "contains"), (0, u "(J)Z"), (0, .methodref 14 28), (0, .nameAndType 29 26), (0, u "isPast"), (0, .class_ 31), (0, u "com/example/weiche/weiche/net/IntervalBoundedPinLaw"), (2, u "law"), (0, u "(IIJ)Z")] 3

def k1m0 : Method := { name := "<init>", desc := "()V", sig := { parameters := [], returnType := none }, accessFlags := 1, code := none }
def k1c1 : Code := { maxStack := 5, maxLocals := 8, code := code, exceptionTable := #[], attributes := #[] }
def k1m1 : Method := { name := "law", desc := "(IIJ)Z", sig := { parameters := [.int, .int, .long], returnType := some .boolean }, accessFlags := 9, code := some k1c1 }
/-- com/example/weiche/weiche/net/IntervalBoundedPinLaw -/
def k1 : Class := { plain "com/example/weiche/weiche/net/IntervalBoundedPinLaw" (some 0) with
  accessFlags := 49
  interfaces := #[]
  cf := some (fileOf pool1 30 #[] #[{ accessFlags := 1, nameIndex := 5, descriptorIndex := 6, attributes := #[] }, { accessFlags := 9, nameIndex := 34, descriptorIndex := 35, attributes := #[] }] 49 2 #[] #[])
  fields := #[]
  methods := #[k1m0, k1m1]
  instanceTypes := #[]
  staticTypes := #[]
  resolved := Array.replicate 39 none
  statics := none }

def pool2 : Array CpInfo := pool [(1, .class_ 2), (0, u "java/lang/Math"), (1, .class_ 6), (1, u "java/lang/Object"), (0, u "<init>"), (0, u "()V"), (89, .class_ 100), (1, u "java/lang/Math$RandomNumberGeneratorHolder"), (71, u "negativeZeroFloatBits"), (0, u "J"), (2, u "negativeZeroDoubleBits"), (21, u "max"), (46, u "$assertionsDisabled"), (0, u "Z"), (88, u "(II)I"), (2, u "twoToTheDoubleScaleDown"), (0, u "D"), (4, u "twoToTheDoubleScaleUp"), (9, u "E"), (3, u "PI"), (2, u "TAU"), (2, u "DEGREES_TO_RADIANS"), (0, u "RADIANS_TO_DEGREES")] 94

def k2m0 : Method := { name := "<init>", desc := "()V", sig := { parameters := [], returnType := none }, accessFlags := 2, code := none }
def k2c1 : Code := { maxStack := 2, maxLocals := 2, code := jdk_29_method_65_code, exceptionTable := #[], attributes := #[] }
def k2m1 : Method := { name := "max", desc := "(II)I", sig := { parameters := [.int, .int], returnType := some .int }, accessFlags := 9, code := some k2c1 }
/-- java/lang/Math -/
def k2 : Class := { plain "java/lang/Math" (some 0) with
  accessFlags := 49
  interfaces := #[]
  cf := some (fileOf pool2 1 #[.nestMembers #[98]] #[{ accessFlags := 2, nameIndex := 7, descriptorIndex := 8, attributes := #[] }, { accessFlags := 9, nameIndex := 198, descriptorIndex := 335, attributes := #[] }] 49 4 #[] #[{ accessFlags := 25, nameIndex := 354, descriptorIndex := 339, attributes := #[] }, { accessFlags := 25, nameIndex := 358, descriptorIndex := 339, attributes := #[] }, { accessFlags := 25, nameIndex := 361, descriptorIndex := 339, attributes := #[] }, { accessFlags := 26, nameIndex := 364, descriptorIndex := 339, attributes := #[] }, { accessFlags := 26, nameIndex := 365, descriptorIndex := 339, attributes := #[] }, { accessFlags := 26, nameIndex := 172, descriptorIndex := 173, attributes := #[] }, { accessFlags := 26, nameIndex := 176, descriptorIndex := 173, attributes := #[] }, { accessFlags := 8, nameIndex := 344, descriptorIndex := 339, attributes := #[] }, { accessFlags := 8, nameIndex := 338, descriptorIndex := 339, attributes := #[] }, { accessFlags := 4120, nameIndex := 245, descriptorIndex := 246, attributes := #[] }])
  fields := #[{ name := "E", type := .double, accessFlags := 25, slot := 0, constantValue := 0 }, { name := "PI", type := .double, accessFlags := 25, slot := 1, constantValue := 0 }, { name := "TAU", type := .double, accessFlags := 25, slot := 2, constantValue := 0 }, { name := "DEGREES_TO_RADIANS", type := .double, accessFlags := 26, slot := 3, constantValue := 0 }, { name := "RADIANS_TO_DEGREES", type := .double, accessFlags := 26, slot := 4, constantValue := 0 }, { name := "negativeZeroFloatBits", type := .long, accessFlags := 26, slot := 5, constantValue := 0 }, { name := "negativeZeroDoubleBits", type := .long, accessFlags := 26, slot := 6, constantValue := 0 }, { name := "twoToTheDoubleScaleUp", type := .double, accessFlags := 8, slot := 7, constantValue := 0 }, { name := "twoToTheDoubleScaleDown", type := .double, accessFlags := 8, slot := 8, constantValue := 0 }, { name := "$assertionsDisabled", type := .boolean, accessFlags := 4120, slot := 9, constantValue := 0 }]
  methods := #[k2m0, k2m1]
  instanceTypes := #[]
  staticTypes := #[.double, .double, .double, .double, .double, .long, .long, .double, .double, .boolean]
  resolved := Array.replicate 460 none
  statics := none }

def pool3 : Array CpInfo := pool [(1, .methodref 2 3), (0, .class_ 4), (0, .nameAndType 5 6), (0, u "java/lang/Object"), (0, u "<init>"), (0, u "()V"), (0, .fieldref 8 9), (0, .class_ 10), (0, .nameAndType 11 12), (0, u "com/example/weiche/weiche/net/Interval"), (0, u "lower"), (0, u "I"), (0, .fieldref 8 14), (0, .nameAndType 15 16), (0, u "upper"), (0, u "Ljava/util/OptionalInt;"), (0, .methodref 8 18), (0, .nameAndType 19 20), (0, u "checkLower"), (0, u "(I)V"), (9, .methodref 31 32), (0, .class_ 33), (0, .nameAndType 34 35), (0, u "java/util/OptionalInt"), (0, u "of"), (0, u "(I)Ljava/util/OptionalInt;"), (0, .methodref 8 37), (0, .nameAndType 5 38), (0, u "(ILjava/util/OptionalInt;)V"), (7, .methodref 8 47), (0, .nameAndType 48 49), (0, u "isPast"), (0, u "(J)Z"), (0, .methodref 31 51), (0, .nameAndType 52 53), (0, u "isPresent"), (0, u "()Z"), (0, .methodref 31 55), (0, .nameAndType 56 57), (0, u "getAsInt"), (0, u "()I"), (0, u "SMALLEST_LOWER_BOUND"), (4, u "bounded"), (0, u "(II)Lcom/example/weiche/weiche/net/Interval;"), (3, u "contains")] 19

def k3c0 : Code := { maxStack := 2, maxLocals := 3, code := prog_22_method_1_code, exceptionTable := #[], attributes := #[] }
def k3m0 : Method := { name := "<init>", desc := "(ILjava/util/OptionalInt;)V", sig := { parameters := [.int, (.object "java/util/OptionalInt")], returnType := none }, accessFlags := 2, code := some k3c0 }
def k3c1 : Code := { maxStack := 4, maxLocals := 2, code := prog_22_method_2_code, exceptionTable := #[], attributes := #[] }
def k3m1 : Method := { name := "bounded", desc := "(II)Lcom/example/weiche/weiche/net/Interval;", sig := { parameters := [.int, .int], returnType := some (.object "com/example/weiche/weiche/net/Interval") }, accessFlags := 9, code := some k3c1 }
def k3c2 : Code := { maxStack := 3, maxLocals := 1, code := prog_22_method_4_code, exceptionTable := #[], attributes := #[] }
def k3m2 : Method := { name := "checkLower", desc := "(I)V", sig := { parameters := [.int], returnType := none }, accessFlags := 10, code := some k3c2 }
def k3c3 : Code := { maxStack := 1, maxLocals := 1, code := prog_22_method_5_code, exceptionTable := #[], attributes := #[] }
def k3m3 : Method := { name := "lower", desc := "()I", sig := { parameters := [], returnType := some .int }, accessFlags := 1, code := some k3c3 }
def k3c4 : Code := { maxStack := 4, maxLocals := 3, code := prog_22_method_7_code, exceptionTable := #[], attributes := #[] }
def k3m4 : Method := { name := "contains", desc := "(J)Z", sig := { parameters := [.long], returnType := some .boolean }, accessFlags := 1, code := some k3c4 }
def k3c5 : Code := { maxStack := 4, maxLocals := 3, code := prog_22_method_8_code, exceptionTable := #[], attributes := #[] }
def k3m5 : Method := { name := "isPast", desc := "(J)Z", sig := { parameters := [.long], returnType := some .boolean }, accessFlags := 1, code := some k3c5 }
/-- com/example/weiche/weiche/net/Interval -/
def k3 : Class := { plain "com/example/weiche/weiche/net/Interval" (some 0) with
  accessFlags := 49
  interfaces := #[]
  cf := some (fileOf pool3 8 #[] #[{ accessFlags := 2, nameIndex := 5, descriptorIndex := 38, attributes := #[] }, { accessFlags := 9, nameIndex := 63, descriptorIndex := 64, attributes := #[] }, { accessFlags := 10, nameIndex := 19, descriptorIndex := 20, attributes := #[] }, { accessFlags := 1, nameIndex := 11, descriptorIndex := 57, attributes := #[] }, { accessFlags := 1, nameIndex := 68, descriptorIndex := 49, attributes := #[] }, { accessFlags := 1, nameIndex := 48, descriptorIndex := 49, attributes := #[] }] 49 2 #[] #[{ accessFlags := 26, nameIndex := 58, descriptorIndex := 12, attributes := #[] }, { accessFlags := 18, nameIndex := 11, descriptorIndex := 12, attributes := #[] }, { accessFlags := 18, nameIndex := 15, descriptorIndex := 16, attributes := #[] }])
  fields := #[{ name := "SMALLEST_LOWER_BOUND", type := .int, accessFlags := 26, slot := 0, constantValue := 0 }, { name := "lower", type := .int, accessFlags := 18, slot := 0, constantValue := 0 }, { name := "upper", type := (.object "java/util/OptionalInt"), accessFlags := 18, slot := 1, constantValue := 0 }]
  methods := #[k3m0, k3m1, k3m2, k3m3, k3m4, k3m5]
  instanceTypes := #[.int, (.object "java/util/OptionalInt")]
  staticTypes := #[.int]
  resolved := Array.replicate 88 none
  statics := none }

def pool4 : Array CpInfo := pool [(1, .methodref 2 3), (0, .class_ 4), (0, .nameAndType 5 6), (0, u "java/lang/Object"), (0, u "<init>"), (0, u "()V"), (0, .fieldref 8 9), (0, .class_ 10), (0, .nameAndType 11 12), (0, u "java/util/OptionalInt"), (0, u "isPresent"), (0, u "Z"), (0, .fieldref 8 14), (0, .nameAndType 15 16), (0, u "value"), (0, u "I"), (2, u "EMPTY"), (0, u "Ljava/util/OptionalInt;"), (0, .methodref 8 22), (0, .nameAndType 5 23), (0, u "(I)V"), (21, u "of"), (9, u "getAsInt"), (0, u "()I"), (40, u "(I)Ljava/util/OptionalInt;"), (1, u "()Z")] 36

def k4m0 : Method := { name := "<init>", desc := "()V", sig := { parameters := [], returnType := none }, accessFlags := 2, code := none }
def k4c1 : Code := { maxStack := 2, maxLocals := 2, code := jdk_2649_method_3_code, exceptionTable := #[], attributes := #[] }
def k4m1 : Method := { name := "<init>", desc := "(I)V", sig := { parameters := [.int], returnType := none }, accessFlags := 2, code := some k4c1 }
def k4c2 : Code := { maxStack := 3, maxLocals := 1, code := jdk_2649_method_4_code, exceptionTable := #[], attributes := #[] }
def k4m2 : Method := { name := "of", desc := "(I)Ljava/util/OptionalInt;", sig := { parameters := [.int], returnType := some (.object "java/util/OptionalInt") }, accessFlags := 9, code := some k4c2 }
def k4c3 : Code := { maxStack := 3, maxLocals := 1, code := jdk_2649_method_5_code, exceptionTable := #[], attributes := #[] }
def k4m3 : Method := { name := "getAsInt", desc := "()I", sig := { parameters := [], returnType := some .int }, accessFlags := 1, code := some k4c3 }
def k4c4 : Code := { maxStack := 1, maxLocals := 1, code := jdk_2649_method_6_code, exceptionTable := #[], attributes := #[] }
def k4m4 : Method := { name := "isPresent", desc := "()Z", sig := { parameters := [], returnType := some .boolean }, accessFlags := 1, code := some k4c4 }
/-- java/util/OptionalInt -/
def k4 : Class := { plain "java/util/OptionalInt" (some 0) with
  accessFlags := 49
  interfaces := #[]
  cf := some (fileOf pool4 8 #[] #[{ accessFlags := 2, nameIndex := 5, descriptorIndex := 6, attributes := #[] }, { accessFlags := 2, nameIndex := 5, descriptorIndex := 23, attributes := #[] }, { accessFlags := 9, nameIndex := 45, descriptorIndex := 97, attributes := #[] }, { accessFlags := 1, nameIndex := 55, descriptorIndex := 56, attributes := #[] }, { accessFlags := 1, nameIndex := 11, descriptorIndex := 99, attributes := #[] }] 49 2 #[] #[{ accessFlags := 26, nameIndex := 19, descriptorIndex := 20, attributes := #[] }, { accessFlags := 18, nameIndex := 11, descriptorIndex := 12, attributes := #[] }, { accessFlags := 18, nameIndex := 15, descriptorIndex := 16, attributes := #[] }])
  fields := #[{ name := "EMPTY", type := (.object "java/util/OptionalInt"), accessFlags := 26, slot := 0, constantValue := 0 }, { name := "isPresent", type := .boolean, accessFlags := 18, slot := 0, constantValue := 0 }, { name := "value", type := .int, accessFlags := 18, slot := 1, constantValue := 0 }]
  methods := #[k4m0, k4m1, k4m2, k4m3, k4m4]
  instanceTypes := #[.boolean, .int]
  staticTypes := #[(.object "java/util/OptionalInt")]
  resolved := Array.replicate 136 none
  statics := none }

def pool5 : Array CpInfo := pool [(1, u "java/lang/Cloneable"), (0, .class_ 1), (0, u "java/lang/Object"), (0, .class_ 3)] 3

/-- java/lang/Cloneable -/
def k5 : Class := { plain "java/lang/Cloneable" (some 0) with
  accessFlags := 1537
  interfaces := #[]
  cf := some (fileOf pool5 2 #[] #[] 1537 4 #[] #[])
  fields := #[]
  methods := #[]
  instanceTypes := #[]
  staticTypes := #[]
  resolved := Array.replicate 8 none
  statics := none }

def pool6 : Array CpInfo := pool [(1, u "java/io/Serializable"), (0, .class_ 1), (0, u "java/lang/Object"), (0, .class_ 3)] 3

/-- java/io/Serializable -/
def k6 : Class := { plain "java/io/Serializable" (some 0) with
  accessFlags := 1537
  interfaces := #[]
  cf := some (fileOf pool6 2 #[] #[] 1537 4 #[] #[])
  fields := #[]
  methods := #[]
  instanceTypes := #[]
  staticTypes := #[]
  resolved := Array.replicate 8 none
  statics := none }

/-- the primitive byte -/
def k7 : Class := { plain "byte" none with kind := .primitive 'B', accessFlags := 0x411 }
/-- [B -/
def k8 : Class := { plain "[B" (some 0) with kind := .array 7 .byte, interfaces := #[5, 6], accessFlags := 1041 }

/-- the primitive int -/
def k9 : Class := { plain "int" none with kind := .primitive 'I', accessFlags := 0x411 }
/-- [I -/
def k10 : Class := { plain "[I" (some 0) with kind := .array 9 .int, interfaces := #[5, 6], accessFlags := 1041 }

def heap : Heap := #[]
def classes : Array Class := #[k0, k1, k2, k3, k4, k5, k6, k7, k8, k9, k10]
def interned : List (Array UInt16 × Addr) := []
def slotsUsed : Nat := 0
def theMethod : MethodId := ⟨1, 1⟩
def args0 : Array Value := #[.int 5, .int 9, .long 7]
def aboutOver (below : List Frame) : State where
  vm := { classes := classes, interned := interned.toArray }
  heap := heap
  slotsUsed := slotsUsed
  threads := #[{ frames := .invoking theMethod args0 :: below }]
def below0 : List Frame := [.native { method := ⟨0, 0⟩, args := #[] }]
def about1 : State := aboutOver below0
def p0 : Program := .bare "" "" ""
def e0 : Env := launch0.env 0 0 0
theorem w_frames : about1.frames = Frame.invoking theMethod args0 :: below0 := rfl
set_option maxRecDepth 65536 in
theorem w_args : argsFit about1.vm theMethod args0 = true := by decide +kernel
set_option maxRecDepth 65536 in
theorem w_heap : heapFits about1 = true := by decide +kernel
set_option maxRecDepth 65536 in
theorem w_runnable : about1.curStatus? = some .runnable := by decide +kernel
set_option maxRecDepth 65536 in
theorem w_alone : about1.alone = true := by decide +kernel
set_option maxRecDepth 65536 in
theorem w_named : about1.methodNamed? x = some theMethod := by decide +kernel
set_option maxRecDepth 65536 in
theorem w_hears : about1.hears theMethod below0 = true := by decide +kernel
set_option maxRecDepth 65536 in
theorem w_ripe : about1.ripe theMethod args0 below0 = true := by decide +kernel
theorem w_running : about1.status = .running := rfl
set_option maxRecDepth 65536 in
theorem w_room : about1.hasRoom e0.platform room_1 = true :=
  launch0.hasRoom_least _ room_1 (by decide +kernel) (by decide +kernel) (by decide +kernel) (by decide +kernel) (by decide +kernel) (by decide +kernel)
theorem allAtoms_all (ts : List Jvm.Cond) (a : Array Jvm.Value) (st : Jvm.State) : (allAtoms ts).before a st = ts.all (fun c => c.before a st) := by
  induction ts with
  | nil => rfl
  | cons c t ih =>
    show (Jvm.Cond.and c (allAtoms t)).before a st = _
    rw [Jvm.Cond.before_and, ih, List.all_cons]
def words1 : List Jvm.Cond := Jvm.Cond.code x code maxLocals ret :: tables_1
/-- a 'code' word, met by the world's own term for the bytes: nothing is compared byte by byte -/
theorem code_word {y : MethodName} {bytes : ByteArray} {mx : Nat} {rt : Option FieldType} {a : Array Value} {s : State} {m : MethodId} {meth : Method} {c : Code} (h1 : s.methodNamed? y = some m) (h2 : s.vm.method? m = some meth) (h3 : meth.code = some c) (h4 : c.code = bytes)
    (h5 : (c.maxLocals == mx && c.exceptionTable.isEmpty && decide (c.maxStack ≤ mostOperands) && decide (meth.sig.returnType = rt) && !meth.locks && decide (parseMethodDescriptor y.desc = some meth.sig)) = true) : (Jvm.Cond.code y bytes mx rt).before a s = true := by
  simp only [Bool.and_eq_true, beq_iff_eq, Bool.not_eq_true', decide_eq_true_eq] at h5
  obtain ⟨⟨⟨⟨⟨g1, g2⟩, g3⟩, g4⟩, g5⟩, g6⟩ := h5
  simp [Cond.before, Cond.holds, Cond.value, h1, h2, h3, h4, g1, g2, g3, g4, g5, g6]
def isCode : Jvm.Cond → Bool
  | .code _ _ _ _ => true
  | _ => false
theorem all_split {L : List Jvm.Cond} {P : Jvm.Cond → Bool} (h1 : L.all (fun c => isCode c || P c) = true) (h2 : ∀ c ∈ L.filter isCode, P c = true) : L.all P = true := by
  refine List.all_eq_true.mpr fun c hc => ?_
  have h := List.all_eq_true.mp h1 c hc
  rcases Bool.eq_false_or_eq_true (isCode c) with hi | hi
  · exact h2 c (List.mem_filter.mpr ⟨hc, hi⟩)
  · simpa [hi] using h
set_option maxRecDepth 65536 in
theorem w_c0 : (Jvm.Cond.code x code maxLocals ret).before args0 about1 = true := code_word (m := ⟨1, 1⟩) (meth := k1m1) (c := k1c1) (by decide +kernel) rfl rfl rfl (by decide +kernel)
set_option maxRecDepth 65536 in
theorem w_c1 : (Jvm.Cond.code ({ cls := "java/lang/Math", name := "max", desc := "(II)I" } : Jvm.MethodName) jdk_29_method_65_code (2 : Nat) (Option.some Jvm.ClassFile.FieldType.int)).before args0 about1 = true := code_word (m := ⟨2, 1⟩) (meth := k2m1) (c := k2c1) (by decide +kernel) rfl rfl rfl (by decide +kernel)
set_option maxRecDepth 65536 in
theorem w_c2 : (Jvm.Cond.code ({ cls := "com/example/weiche/weiche/net/Interval", name := "bounded", desc := "(II)Lcom/example/weiche/weiche/net/Interval;" } : Jvm.MethodName) prog_22_method_2_code (2 : Nat) (Option.some (Jvm.ClassFile.FieldType.object "com/example/weiche/weiche/net/Interval"))).before args0 about1 = true := code_word (m := ⟨3, 1⟩) (meth := k3m1) (c := k3c1) (by decide +kernel) rfl rfl rfl (by decide +kernel)
set_option maxRecDepth 65536 in
theorem w_c3 : (Jvm.Cond.code ({ cls := "com/example/weiche/weiche/net/Interval", name := "checkLower", desc := "(I)V" } : Jvm.MethodName) prog_22_method_4_code (1 : Nat) (Option.none : Option Jvm.ClassFile.FieldType)).before args0 about1 = true := code_word (m := ⟨3, 2⟩) (meth := k3m2) (c := k3c2) (by decide +kernel) rfl rfl rfl (by decide +kernel)
set_option maxRecDepth 65536 in
theorem w_c4 : (Jvm.Cond.code ({ cls := "java/util/OptionalInt", name := "of", desc := "(I)Ljava/util/OptionalInt;" } : Jvm.MethodName) jdk_2649_method_4_code (1 : Nat) (Option.some (Jvm.ClassFile.FieldType.object "java/util/OptionalInt"))).before args0 about1 = true := code_word (m := ⟨4, 2⟩) (meth := k4m2) (c := k4c2) (by decide +kernel) rfl rfl rfl (by decide +kernel)
set_option maxRecDepth 65536 in
theorem w_c5 : (Jvm.Cond.code ({ cls := "java/util/OptionalInt", name := "<init>", desc := "(I)V" } : Jvm.MethodName) jdk_2649_method_3_code (2 : Nat) (Option.none : Option Jvm.ClassFile.FieldType)).before args0 about1 = true := code_word (m := ⟨4, 1⟩) (meth := k4m1) (c := k4c1) (by decide +kernel) rfl rfl rfl (by decide +kernel)
set_option maxRecDepth 65536 in
theorem w_c6 : (Jvm.Cond.code ({ cls := "java/lang/Object", name := "<init>", desc := "()V" } : Jvm.MethodName) object_method_1_code (1 : Nat) (Option.none : Option Jvm.ClassFile.FieldType)).before args0 about1 = true := code_word (m := ⟨0, 0⟩) (meth := k0m0) (c := k0c0) (by decide +kernel) rfl rfl rfl (by decide +kernel)
set_option maxRecDepth 65536 in
theorem w_c7 : (Jvm.Cond.code ({ cls := "com/example/weiche/weiche/net/Interval", name := "<init>", desc := "(ILjava/util/OptionalInt;)V" } : Jvm.MethodName) prog_22_method_1_code (3 : Nat) (Option.none : Option Jvm.ClassFile.FieldType)).before args0 about1 = true := code_word (m := ⟨3, 0⟩) (meth := k3m0) (c := k3c0) (by decide +kernel) rfl rfl rfl (by decide +kernel)
set_option maxRecDepth 65536 in
theorem w_c8 : (Jvm.Cond.code ({ cls := "com/example/weiche/weiche/net/Interval", name := "lower", desc := "()I" } : Jvm.MethodName) prog_22_method_5_code (1 : Nat) (Option.some Jvm.ClassFile.FieldType.int)).before args0 about1 = true := code_word (m := ⟨3, 3⟩) (meth := k3m3) (c := k3c3) (by decide +kernel) rfl rfl rfl (by decide +kernel)
set_option maxRecDepth 65536 in
theorem w_c9 : (Jvm.Cond.code ({ cls := "com/example/weiche/weiche/net/Interval", name := "contains", desc := "(J)Z" } : Jvm.MethodName) prog_22_method_7_code (3 : Nat) (Option.some Jvm.ClassFile.FieldType.boolean)).before args0 about1 = true := code_word (m := ⟨3, 4⟩) (meth := k3m4) (c := k3c4) (by decide +kernel) rfl rfl rfl (by decide +kernel)
set_option maxRecDepth 65536 in
theorem w_c10 : (Jvm.Cond.code ({ cls := "com/example/weiche/weiche/net/Interval", name := "isPast", desc := "(J)Z" } : Jvm.MethodName) prog_22_method_8_code (3 : Nat) (Option.some Jvm.ClassFile.FieldType.boolean)).before args0 about1 = true := code_word (m := ⟨3, 5⟩) (meth := k3m5) (c := k3c5) (by decide +kernel) rfl rfl rfl (by decide +kernel)
set_option maxRecDepth 65536 in
theorem w_c11 : (Jvm.Cond.code ({ cls := "java/util/OptionalInt", name := "isPresent", desc := "()Z" } : Jvm.MethodName) jdk_2649_method_6_code (1 : Nat) (Option.some Jvm.ClassFile.FieldType.boolean)).before args0 about1 = true := code_word (m := ⟨4, 4⟩) (meth := k4m4) (c := k4c4) (by decide +kernel) rfl rfl rfl (by decide +kernel)
set_option maxRecDepth 65536 in
theorem w_c12 : (Jvm.Cond.code ({ cls := "java/util/OptionalInt", name := "getAsInt", desc := "()I" } : Jvm.MethodName) jdk_2649_method_5_code (1 : Nat) (Option.some Jvm.ClassFile.FieldType.int)).before args0 about1 = true := code_word (m := ⟨4, 3⟩) (meth := k4m3) (c := k4c3) (by decide +kernel) rfl rfl rfl (by decide +kernel)
def codes1 : List Jvm.Cond := [Jvm.Cond.code x code maxLocals ret, Jvm.Cond.code ({ cls := "java/lang/Math", name := "max", desc := "(II)I" } : Jvm.MethodName) jdk_29_method_65_code (2 : Nat) (Option.some Jvm.ClassFile.FieldType.int), Jvm.Cond.code ({ cls := "com/example/weiche/weiche/net/Interval", name := "bounded", desc := "(II)Lcom/example/weiche/weiche/net/Interval;" } : Jvm.MethodName) prog_22_method_2_code (2 : Nat) (Option.some (Jvm.ClassFile.FieldType.object "com/example/weiche/weiche/net/Interval")), Jvm.Cond.code ({ cls := "com/example/weiche/weiche/net/Interval", name := "checkLower", desc := "(I)V" } : Jvm.MethodName) prog_22_method_4_code (1 : Nat) (Option.none : Option Jvm.ClassFile.FieldType), Jvm.Cond.code ({ cls := "java/util/OptionalInt", name := "of", desc := "(I)Ljava/util/OptionalInt;" } : Jvm.MethodName) jdk_2649_method_4_code (1 : Nat) (Option.some (Jvm.ClassFile.FieldType.object "java/util/OptionalInt")), Jvm.Cond.code ({ cls := "java/util/OptionalInt", name := "<init>", desc := "(I)V" } : Jvm.MethodName) jdk_2649_method_3_code (2 : Nat) (Option.none : Option Jvm.ClassFile.FieldType), Jvm.Cond.code ({ cls := "java/lang/Object", name := "<init>", desc := "()V" } : Jvm.MethodName) object_method_1_code (1 : Nat) (Option.none : Option Jvm.ClassFile.FieldType), Jvm.Cond.code ({ cls := "com/example/weiche/weiche/net/Interval", name := "<init>", desc := "(ILjava/util/OptionalInt;)V" } : Jvm.MethodName) prog_22_method_1_code (3 : Nat) (Option.none : Option Jvm.ClassFile.FieldType), Jvm.Cond.code ({ cls := "com/example/weiche/weiche/net/Interval", name := "lower", desc := "()I" } : Jvm.MethodName) prog_22_method_5_code (1 : Nat) (Option.some Jvm.ClassFile.FieldType.int), Jvm.Cond.code ({ cls := "com/example/weiche/weiche/net/Interval", name := "contains", desc := "(J)Z" } : Jvm.MethodName) prog_22_method_7_code (3 : Nat) (Option.some Jvm.ClassFile.FieldType.boolean), Jvm.Cond.code ({ cls := "com/example/weiche/weiche/net/Interval", name := "isPast", desc := "(J)Z" } : Jvm.MethodName) prog_22_method_8_code (3 : Nat) (Option.some Jvm.ClassFile.FieldType.boolean), Jvm.Cond.code ({ cls := "java/util/OptionalInt", name := "isPresent", desc := "()Z" } : Jvm.MethodName) jdk_2649_method_6_code (1 : Nat) (Option.some Jvm.ClassFile.FieldType.boolean), Jvm.Cond.code ({ cls := "java/util/OptionalInt", name := "getAsInt", desc := "()I" } : Jvm.MethodName) jdk_2649_method_5_code (1 : Nat) (Option.some Jvm.ClassFile.FieldType.int)]
set_option maxRecDepth 65536 in
theorem codes_eq : words1.filter isCode = codes1 := rfl
theorem w_codes : ∀ c ∈ words1.filter isCode, c.before args0 about1 = true := by
  rw [codes_eq]
  intro c hc
  simp only [codes1, List.mem_cons, List.not_mem_nil, or_false] at hc
  rcases hc with rfl | rfl | rfl | rfl | rfl | rfl | rfl | rfl | rfl | rfl | rfl | rfl | rfl
  · exact w_c0
  · exact w_c1
  · exact w_c2
  · exact w_c3
  · exact w_c4
  · exact w_c5
  · exact w_c6
  · exact w_c7
  · exact w_c8
  · exact w_c9
  · exact w_c10
  · exact w_c11
  · exact w_c12
set_option maxRecDepth 65536 in
theorem w_t1 : (words1.take 24).all (fun c => isCode c || c.before args0 about1) = true := by decide +kernel
set_option maxRecDepth 65536 in
theorem w_t2 : ((words1.drop 24).take 24).all (fun c => isCode c || c.before args0 about1) = true := by decide +kernel
set_option maxRecDepth 65536 in
theorem w_t3 : ((words1.drop 24).drop 24).all (fun c => isCode c || c.before args0 about1) = true := by decide +kernel
theorem w_tables : (allAtoms (Jvm.Cond.code x code maxLocals ret :: tables_1)).before args0 about1 = true := by
  rw [allAtoms_all]
  show words1.all (fun c => c.before args0 about1) = true
  refine all_split ?_ w_codes
  rw [← List.take_append_drop 24 words1, List.all_append, w_t1, ← List.take_append_drop 24 (words1.drop 24), List.all_append, w_t2, w_t3]
  rfl
set_option maxRecDepth 65536 in
theorem w_case : (Jvm.Cond.and given_1 narrow_1).before args0 about1 = true := by decide +kernel
theorem w_applies : (headSpec (Jvm.Cond.code x code maxLocals ret :: tables_1) room_1).applies x e0.platform about1 = true :=
  (Spec.applies_iff w_frames).mpr ⟨w_running, w_runnable, w_alone, w_named, w_hears, w_ripe, w_room, w_tables⟩
theorem atStart : AtStart classFile x code maxLocals ret World_1 tables_1 room_1 Calls_1 rest_1 Pre_1 launch0 p0 e0 about1 theMethod args0 below0 :=
  ⟨lists_1, trivial, launch0.admits_env _ _ _, launch0.least_env, fairChoices_fair.cas, fairChoices_fair.clock, w_frames, w_args, w_heap, w_applies, trivial, trivial, w_case⟩
end start1
theorem witness_1 : WitnessClaimed_1 := ⟨start1.p0, start1.e0, start1.about1, start1.theMethod, start1.args0, start1.below0, start1.atStart⟩
end Jvm.Pilot.@@N@@
