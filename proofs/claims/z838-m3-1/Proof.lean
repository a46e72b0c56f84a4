import JvmDerived
import JvmDerived.Pilot.@@N@@Statement
import JvmDerived.Pilot.@@N@@Code
set_option linter.unusedVariables false
set_option linter.unusedSimpArgs false
namespace Jvm.RoadKit
open Sem ClassFile Op Lib Jvm.Stand Jvm.Free Jvm.LawKit
section New
variable {p : Program} {l : Launch} {e : Env} {R : Room} {s : State} {m : MethodId} {args : Array Value} {below : List Frame} {meth : Method} {c : Code} {T : State} {locs : List Loc} {cells slots : Nat}
theorem retI (X : Stand p l e R s m args below meth c T locs cells slots) (hx : p.tables.exec = Jvm.exec) {pc : Nat} {Ls : Array Slot} {z : Int32} {rest : List Value} (hret : meth.sig.returnType = some .int) (hd : decode c.code pc = .ok (.ireturn, 1)) {fs : List Frame}
    (hl : ∀ (f : JFrame) (acts : List Action), f.method = m → f.locked = none → f.entered = [] → (doReturn e (T.setTop f) acts (some (.int z))).1 = T.setFrames fs) : Steps p.tables e below (T.setTop (mkF m pc Ls (.int z :: rest))) (T.setFrames fs) := by
  have hm' : T.vm.method? m = some meth := X.method'
  have hn : narrow .int (.int z) = .int z := rfl
  show Steps p.tables e below (T.setTop { method := m, pc := pc, locals := Ls, stack := _ :: rest, locked := none }) _
  jvm_step X.here [X.here.top, hx, hd, hm', hret, hn]
  first | (intro acts; rw [hl _ acts rfl rfl rfl]) | rw [hl _ _ rfl rfl rfl]
  exact Steps.refl _
end New
end Jvm.RoadKit
@@BLOCK:NumsL.lean.txt@@
namespace Jvm.Pilot.@@N@@
open Jvm Jvm.ClassFile Sem Op Lib Jvm.Free Jvm.Stand Jvm.LawKit Jvm.RoadKit Bundle Jvm.Pilot.@@N@@.Jvm.D
def own_End (p : Program) (e : Env) (below : List Frame) (P : Outcome → State → Prop) (S : State) : Prop :=
  ∃ s₂ o, Steps p.tables e below S s₂ ∧ s₂.status = .running ∧ Ended s₂ below o ∧ P o s₂
abbrev own_Met (l : Launch) (Z : State) (y : MethodName) (bytes : ByteArray) (maxL : Nat) (rt : Option FieldType) (ws : List Jvm.Cond) (rm : Room) (as' : Array Value) (h0 : Heap) (Q : Option Value → Heap → List Loc → Prop) : Prop :=
  MetFree l y (head1 (Jvm.Cond.code y bytes maxL rt :: ws) rm) (fun a U => a = as' ∧ Z.Warmed39 U.vm ∧ U.heap = h0) (fun _ _ _ _ _ => True) (fun _ U o U' => ∃ v L, o = .returned v ∧ Q v U'.heap L ∧ FrameEnd U o U' L rm.cells rm.slots)
def own_Ok (Q : Option Value → Heap → List Loc → Prop) (s : State) (kc ks : Nat) (P : Outcome → State → Prop) : Prop := ∀ v U L, Q v U.heap L → FrameEnd s (.returned v) U L kc ks → P (.returned v) U
section Own
variable {p : Program} {l : Launch} {e : Env} {R : Room} {s : State} {m : MethodId} {args : Array Value} {below : List Frame} {meth : Method} {c : Code} {T : State} {locs : List Loc} {cells slots : Nat} {Z : State} {a0 : Array Value} {h : Heap} {P : Outcome → State → Prop}
theorem own_st {S S' : State} (q : ∀ t, Steps p.tables e below S' t → Steps p.tables e below S t) (k : own_End p e below P S') : own_End p e below P S := by
  obtain ⟨a, b, c, d⟩ := k
  exact ⟨a, b, q _ c, d⟩
theorem own_tr {S S' : State} (q : Steps p.tables e below S S') (k : own_End p e below P S') : own_End p e below P S := own_st (fun _ r => q.trans r) k
theorem own_enter {y : MethodName} {bytes : ByteArray} {maxL : Nat} {rt : Option FieldType} {ws : List Jvm.Cond} {rm : Room} {as' : Array Value} {h0 : Heap} {Q : Option Value → Heap → List Loc → Prop} (hpl : plainFor y = true)
    (body : ∀ (p : Program) (e : Env) (s : State) (m : MethodId) (below : List Frame) (meth : Method) (c : Code) (s₁ : State) (P : Outcome → State → Prop), p.tables.exec = Jvm.exec → c.code = bytes → c.maxLocals = maxL → meth.sig.returnType = rt → meth.locks = false → s.vm.findClass y.cls = some m.cls → meth.name = y.name → Z.Warmed39 s.vm →
      Stand p l e rm s m as' below meth c s₁ [] 0 0 → s₁.heap = h0 → own_Ok Q s rm.cells rm.slots P → own_End p e below P (s₁.setTop (entryFrame m as' maxL))) :
    own_Met l Z y bytes maxL rt ws rm as' h0 Q := by
  refine MetFree.of_bodySF hpl hisR ?_
  intro p e s m args below meth c s₁ Bd hml0 hP hK
  obtain ⟨rfl, hZ, hh⟩ := hP
  exact body p e s m below meth c s₁ _ Bd.exec Bd.bytes hml0 Bd.returns Bd.notSynchronized (findClass_of_methodNamed Bd.named) (name_of_methodNamed Bd.named Bd.method).1 hZ (Stand.of_body Bd) (by rw [← hh, Bd.state]; rfl) (fun v U L q f => ⟨v, L, rfl, q, f⟩)
theorem own_cast {g g' : JFrame} (q : g = g') (k : own_End p e below P (T.setTop g')) : own_End p e below P (T.setTop g) := q ▸ k
theorem own_retI (X : Stand p l e R s m args below meth c T locs cells slots) (hx : p.tables.exec = Jvm.exec) (hlk : meth.locks = false) {kc ks : Nat} {Q : Option Value → Heap → List Loc → Prop} (hP : own_Ok Q s kc ks P)
    {pc : Nat} {Ls : Array Slot} {z : Int32} {rest : List Value} (hret : meth.sig.returnType = some .int) (hd : decode c.code pc = .ok (.ireturn, 1)) (h1 : cells ≤ kc) (h2 : slots ≤ ks) (hq : Q (some (.int z)) T.heap locs) : own_End p e below P (T.setTop (mkF m pc Ls (.int z :: rest))) := by
  obtain ⟨fs, hr, hrun, hended, hW, hsame⟩ := X.leave (v := some (.int z)) (fun h => by rw [hret] at h; cases h) hlk
  exact ⟨_, _, retI X hx hret hd hr, hrun, hended, hP _ _ locs hq ⟨⟨_, rfl⟩, hW, hsame.mono h1 h2⟩⟩
theorem own_retN (X : Stand p l e R s m args below meth c T locs cells slots) (hx : p.tables.exec = Jvm.exec) (hlk : meth.locks = false) {kc ks : Nat} {Q : Option Value → Heap → List Loc → Prop} (hP : own_Ok Q s kc ks P)
    {pc : Nat} {Ls : Array Slot} {z : Int32} {t : FieldType} {rest : List Value} (ht : t = .boolean ∨ t = .byte ∨ t = .char ∨ t = .short) (hret : meth.sig.returnType = some t) (hd : decode c.code pc = .ok (.ireturn, 1)) (h1 : cells ≤ kc) (h2 : slots ≤ ks) (hq : Q (some (.int (nar t z))) T.heap locs) : own_End p e below P (T.setTop (mkF m pc Ls (.int z :: rest))) := by
  obtain ⟨fs, hr, hrun, hended, hW, hsame⟩ := X.leave (v := some (.int (nar t z))) (fun h => by rw [hret] at h; cases h) hlk
  exact ⟨_, _, retN X hx hret ht hd hr, hrun, hended, hP _ _ locs hq ⟨⟨_, rfl⟩, hW, hsame.mono h1 h2⟩⟩
theorem own_retL (X : Stand p l e R s m args below meth c T locs cells slots) (hx : p.tables.exec = Jvm.exec) (hlk : meth.locks = false) {kc ks : Nat} {Q : Option Value → Heap → List Loc → Prop} (hP : own_Ok Q s kc ks P)
    {pc : Nat} {Ls : Array Slot} {z : Int64} {rest : List Value} (hret : meth.sig.returnType = some .long) (hd : decode c.code pc = .ok (.lreturn, 1)) (h1 : cells ≤ kc) (h2 : slots ≤ ks) (hq : Q (some (.long z)) T.heap locs) : own_End p e below P (T.setTop (mkF m pc Ls (.long z :: rest))) := by
  obtain ⟨fs, hr, hrun, hended, hW, hsame⟩ := X.leave (v := some (.long z)) (fun h => by rw [hret] at h; cases h) hlk
  exact ⟨_, _, retOut X hx hret rfl (Or.inr (Or.inl ⟨rfl, rfl, z, rfl⟩)) hd hr, hrun, hended, hP _ _ locs hq ⟨⟨_, rfl⟩, hW, hsame.mono h1 h2⟩⟩
theorem own_retR (X : Stand p l e R s m args below meth c T locs cells slots) (hx : p.tables.exec = Jvm.exec) (hlk : meth.locks = false) {kc ks : Nat} {Q : Option Value → Heap → List Loc → Prop} (hP : own_Ok Q s kc ks P)
    {pc : Nat} {Ls : Array Slot} {w : Value} {t : FieldType} {rest : List Value} (hw : w.isRef = true) (ht : t.isReference = true) (hret : meth.sig.returnType = some t) (hd : decode c.code pc = .ok (.areturn, 1)) (h1 : cells ≤ kc) (h2 : slots ≤ ks) (hq : Q (some w) T.heap locs) : own_End p e below P (T.setTop (mkF m pc Ls (w :: rest))) := by
  obtain ⟨fs, hr, hrun, hended, hW, hsame⟩ := X.leave (v := some w) (fun h => by rw [hret] at h; cases h) hlk
  have hn : narrow t w = w := by rcases ref_cases hw with rfl | ⟨a, rfl⟩ <;> cases t <;> rfl
  exact ⟨_, _, retOut X hx hret hn (Or.inr (Or.inr (Or.inr (Or.inr ⟨rfl, ht, hw⟩)))) hd hr, hrun, hended, hP _ _ locs hq ⟨⟨_, rfl⟩, hW, hsame.mono h1 h2⟩⟩
theorem own_retV (X : Stand p l e R s m args below meth c T locs cells slots) (hx : p.tables.exec = Jvm.exec) (hlk : meth.locks = false) {kc ks : Nat} {Q : Option Value → Heap → List Loc → Prop} (hP : own_Ok Q s kc ks P)
    {pc : Nat} {Ls : Array Slot} (hret : meth.sig.returnType = none) (hd : decode c.code pc = .ok (.return_, 1)) (h1 : cells ≤ kc) (h2 : slots ≤ ks) (hq : Q none T.heap locs) : own_End p e below P (T.setTop (mkF m pc Ls [])) := by
  obtain ⟨fs, hr, hrun, hended, hW, hsame⟩ := X.leave (v := none) (fun _ => rfl) hlk
  exact ⟨_, _, X.returnOut hx hret hd hr, hrun, hended, hP _ _ locs hq ⟨⟨_, rfl⟩, hW, hsame.mono h1 h2⟩⟩
theorem own_callS (X : Stand p l e R s m args below meth c T locs cells slots) (hx : p.tables.exec = Jvm.exec) (hZ : Z.Warmed39 s.vm) {own : String} {index : Nat} {y : MethodName} {bytes : ByteArray} {maxL : Nat} {rt : Option FieldType} {rm : Room} {as' : Array Value} {Q : Option Value → Heap → List Loc → Prop}
    (hown : s.vm.findClass own = some m.cls) (w1 : (Jvm.Cond.methodLink own index y).before a0 Z = true) (w2 : (Jvm.Cond.static y).before a0 Z = true) (w3 : (Jvm.Cond.initialized y.cls).before a0 Z = true) (w4 : (Jvm.Cond.code y bytes maxL rt).before a0 Z = true) (hy : y.cls ≠ "java/lang/invoke/MethodHandle" ∧ y.cls ≠ "java/lang/invoke/VarHandle")
    (hM : own_Met l Z y bytes maxL rt [] rm as' h Q) (W : Nat) (hf : rm.frames + 1 ≤ R.frames) (hl : W + (maxL + 11) + rm.locals ≤ R.locals) (eT : T.heap = h) (hc : cells + rm.cells ≤ R.cells) (hs : slots + rm.slots ≤ R.slots)
    {g : JFrame} (hg : g.method = m) (hsize : g.locals.size = c.maxLocals) {argsL rest : List Value} (ha : argsL.toArray = as') (hlen : ∀ sig, parseMethodDescriptor y.desc = some sig → argsL.length = sig.parameters.length) (hstack : g.stack = argsL.reverse ++ rest) (hW : 2 * g.monitorRoom + (rest.map fun v => v.category).sum ≤ W) (hdg : decode c.code g.pc = .ok (.invokestatic index, 3))
    (k : ∀ v T' L, Stand p l e R s m args below meth c T' (locs ++ L) (cells + rm.cells) (slots + rm.slots) → Q v T'.heap L → own_End p e below P (T'.setTop { g with pc := g.pc + 3, stack := v.toList ++ rest })) : own_End p e below P (T.setTop g) := by
  obtain ⟨v, vm₁, ⟨T', L', k', n'⟩, -, X', ⟨L, hQ, h1, h2, h3⟩, st⟩ := Jvm.LawKit.callS X hx hown (mvT hZ w1) (mvT hZ w2) (mvT hZ w3) (mvT hZ w4) hy (backOf (W := W) hM hZ w4 w3 hf hl) hg hsize hlen hstack hW hdg (fun _ _ => ⟨ha, eT, hc, hs⟩)
  dsimp only [Pt.U, Pt.locs, Pt.cells, Pt.slots] at X' h1 h2 h3 st hQ
  subst h1 h2 h3
  exact own_st st (k v T' L X' hQ)
theorem own_callI (X : Stand p l e R s m args below meth c T locs cells slots) (hx : p.tables.exec = Jvm.exec) (hZ : Z.Warmed39 s.vm) {own : String} {index : Nat} {y : MethodName} {bytes : ByteArray} {maxL : Nat} {rm : Room} {as' : Array Value} {Q : Option Value → Heap → List Loc → Prop}
    (hy1 : y.name = "<init>") (hown : s.vm.findClass own = some m.cls) (w1 : (Jvm.Cond.methodLink own index y).before a0 Z = true) (w2 : (Jvm.Cond.instanceMethod y).before a0 Z = true) (w3 : (Jvm.Cond.initialized y.cls).before a0 Z = true) (w4 : (Jvm.Cond.code y bytes maxL none).before a0 Z = true) (hy : y.cls ≠ "java/lang/invoke/MethodHandle" ∧ y.cls ≠ "java/lang/invoke/VarHandle")
    (hM : own_Met l Z y bytes maxL none [] rm as' h Q) (W : Nat) (hf : rm.frames + 1 ≤ R.frames) (hl : W + (maxL + 11) + rm.locals ≤ R.locals) (eT : T.heap = h) (hc : cells + rm.cells ≤ R.cells) (hs : slots + rm.slots ≤ R.slots)
    {g : JFrame} (hg : g.method = m) (hsize : g.locals.size = c.maxLocals) {a : Addr} {argsL rest : List Value} (ha : (Value.ref a :: argsL).toArray = as') (hlen : ∀ sig, parseMethodDescriptor y.desc = some sig → argsL.length = sig.parameters.length) (hstack : g.stack = argsL.reverse ++ .ref a :: rest) (hW : 2 * g.monitorRoom + (rest.map fun v => v.category).sum ≤ W) (hdg : decode c.code g.pc = .ok (.invokespecial index, 3))
    (k : ∀ v T' L, Stand p l e R s m args below meth c T' (locs ++ L) (cells + rm.cells) (slots + rm.slots) → Q v T'.heap L → own_End p e below P (T'.setTop { g with pc := g.pc + 3, stack := v.toList ++ rest })) : own_End p e below P (T.setTop g) := by
  obtain ⟨v, vm₁, ⟨T', L', k', n'⟩, -, X', ⟨L, hQ, h1, h2, h3⟩, st⟩ := X.specialBack hx hy1 hown (mvT hZ w1) (mvT hZ w2) (mvT hZ w4) hy (backOf (W := W) hM hZ w4 w3 hf hl) hg hsize (Steps.refl _) hlen hstack hW hdg (fun _ _ => ⟨ha, eT, hc, hs⟩)
  dsimp only [Pt.U, Pt.locs, Pt.cells, Pt.slots] at X' h1 h2 h3 st hQ
  subst h1 h2 h3
  exact own_tr st (k v T' L X' hQ)
theorem own_callV (X : Stand p l e R s m args below meth c T locs cells slots) (hx : p.tables.exec = Jvm.exec) (hZ : Z.Warmed39 s.vm) {own C : String} {index : Nat} {y z : MethodName} {bytes : ByteArray} {maxL : Nat} {rt : Option FieldType} {rm : Room} {as' : Array Value} {Q : Option Value → Heap → List Loc → Prop}
    (hown : s.vm.findClass own = some m.cls) (w1 : (Jvm.Cond.methodLink own index y).before a0 Z = true) (w2 : (Jvm.Cond.declares y).before a0 Z = true) (hnf : NotFace s y) (w5 : (Jvm.Cond.selects C y z).before a0 Z = true) (w6 : (Jvm.Cond.instanceMethod z).before a0 Z = true) (w3 : (Jvm.Cond.initialized z.cls).before a0 Z = true) (w4 : (Jvm.Cond.code z bytes maxL rt).before a0 Z = true) (hy : y.cls ≠ "java/lang/invoke/MethodHandle" ∧ y.cls ≠ "java/lang/invoke/VarHandle")
    {a : Addr} (E : Exa Z h a C) (hM : own_Met l Z z bytes maxL rt [] rm as' h Q) (W : Nat) (hf : rm.frames + 1 ≤ R.frames) (hl : W + (maxL + 11) + rm.locals ≤ R.locals) (eT : T.heap = h) (hc : cells + rm.cells ≤ R.cells) (hs : slots + rm.slots ≤ R.slots)
    {g : JFrame} (hg : g.method = m) (hsize : g.locals.size = c.maxLocals) {argsL rest : List Value} (ha : (Value.ref a :: argsL).toArray = as') (hlen : ∀ sig, parseMethodDescriptor y.desc = some sig → argsL.length = sig.parameters.length) (hstack : g.stack = argsL.reverse ++ .ref a :: rest) (hW : 2 * g.monitorRoom + (rest.map fun v => v.category).sum ≤ W) (hdg : decode c.code g.pc = .ok (.invokevirtual index, 3))
    (k : ∀ v T' L, Stand p l e R s m args below meth c T' (locs ++ L) (cells + rm.cells) (slots + rm.slots) → Q v T'.heap L → own_End p e below P (T'.setTop { g with pc := g.pc + 3, stack := v.toList ++ rest })) : own_End p e below P (T.setTop g) := by
  obtain ⟨cB, kB, q1, q2, q3⟩ := isOf hZ eT E
  obtain ⟨v, vm₁, ⟨T', L', k', n'⟩, -, X', ⟨L, hQ, h1, h2, h3⟩, st⟩ := X.virtualBack hx (y := y) (z := z) hown (mvT hZ w1) (mvT hZ w2) hnf (mvT hZ w5) (mvT hZ w6) hy (backOf (W := W) hM hZ w4 w3 hf hl) q1 q3 hg hsize (Steps.refl _) hlen hstack hW hdg (fun _ _ => ⟨ha, eT, hc, hs⟩)
  dsimp only [Pt.U, Pt.locs, Pt.cells, Pt.slots] at X' h1 h2 h3 st hQ
  subst h1 h2 h3
  exact own_tr st (k v T' L X' hQ)
theorem own_callU (X : Stand p l e R s m args below meth c T locs cells slots) (hx : p.tables.exec = Jvm.exec) (hZ : Z.Warmed39 s.vm) {own C owner : String} {index : Nat} {x y : MethodName} {bytes : ByteArray} {maxL : Nat} {rt : Option FieldType} {rm : Room} {as' : Array Value} {Q : Option Value → Heap → List Loc → Prop}
    (hown : s.vm.findClass own = some m.cls) (w1 : (Jvm.Cond.methodLink own index x).before a0 Z = true) (w2 : (Jvm.Cond.sameMethod x.cls owner x.name x.desc).before a0 Z = true) (w7 : (Jvm.Cond.declares ⟨owner, x.name, x.desc⟩).before a0 Z = true) (hy : owner ≠ "java/lang/invoke/MethodHandle" ∧ owner ≠ "java/lang/invoke/VarHandle") (w5 : (Jvm.Cond.selects C x y).before a0 Z = true) (w6 : (Jvm.Cond.instanceMethod y).before a0 Z = true) (w3 : (Jvm.Cond.initialized y.cls).before a0 Z = true) (w4 : (Jvm.Cond.code y bytes maxL rt).before a0 Z = true)
    {a : Addr} (E : Exa Z h a C) (hM : own_Met l Z y bytes maxL rt [] rm as' h Q) (W : Nat) (hf : rm.frames + 1 ≤ R.frames) (hl : W + (maxL + 11) + rm.locals ≤ R.locals) (eT : T.heap = h) (hc : cells + rm.cells ≤ R.cells) (hs : slots + rm.slots ≤ R.slots)
    {g : JFrame} (hg : g.method = m) (hsize : g.locals.size = c.maxLocals) {argsL rest : List Value} (ha : (Value.ref a :: argsL).toArray = as') (hlen : ∀ sig, parseMethodDescriptor x.desc = some sig → argsL.length = sig.parameters.length) (hstack : g.stack = argsL.reverse ++ .ref a :: rest) (hW : 2 * g.monitorRoom + (rest.map fun v => v.category).sum ≤ W) (hdg : decode c.code g.pc = .ok (.invokevirtual index, 3))
    (k : ∀ v T' L, Stand p l e R s m args below meth c T' (locs ++ L) (cells + rm.cells) (slots + rm.slots) → Q v T'.heap L → own_End p e below P (T'.setTop { g with pc := g.pc + 3, stack := v.toList ++ rest })) : own_End p e below P (T.setTop g) := by
  obtain ⟨cB, kB, q1, q2, q3⟩ := isOf hZ eT E
  obtain ⟨v, vm₁, ⟨T', L', k', n'⟩, -, X', ⟨L, hQ, h1, h2, h3⟩, st⟩ := X.virtualBackUp hx (x := x) (y := y) hown (mvT hZ w1) (mvT hZ w2) (mvT hZ w7) hy (mvT hZ w5) (mvT hZ w6) (backOf (W := W) hM hZ w4 w3 hf hl) q1 q3 hg hsize (Steps.refl _) hlen hstack hW hdg (fun _ _ => ⟨ha, eT, hc, hs⟩)
  dsimp only [Pt.U, Pt.locs, Pt.cells, Pt.slots] at X' h1 h2 h3 st hQ
  subst h1 h2 h3
  exact own_tr st (k v T' L X' hQ)
theorem own_lt {x y : Int64} : lcmpW x y < 0 ↔ x < y := by rw [lcW]; exact lc_lt x y
theorem own_gt {x y : Int64} : 0 < lcmpW x y ↔ y < x := by rw [lcW]; exact lc_gt x y
theorem own_eq {x y : Int64} : lcmpW x y = 0 ↔ x = y := by rw [lcW]; exact lc_eq x y
theorem own_eqInt {first : State} {o : Option Outcome} {idx : List Nat} {t : Term} {k : Int32} (q : (Jvm.Cond.eq t (.int k)).value args first o s idx = some true) : t.eval args first o idx s = some (.int k) := by
  obtain ⟨x, y, e1, e2, k1, k2⟩ := cmp_v (Or.inl q)
  rw [Term.int_eval] at e2
  cases e2
  obtain ⟨z, rfl⟩ := k2
  rw [e1, gotT (Cond.eq_ints e1 (Term.int_eval k)) q]
end Own
theorem own_d1_0 : decode jdk_29_method_65_code 0 = .ok (.iload_n 0, 1) := by decide +kernel
theorem own_d1_1 : decode jdk_29_method_65_code 1 = .ok (.iload_n 1, 1) := by decide +kernel
theorem own_d1_2 : decode jdk_29_method_65_code 2 = .ok (.if_icmp .lt 7, 3) := by decide +kernel
theorem own_d1_9 : decode jdk_29_method_65_code 9 = .ok (.iload_n 1, 1) := by decide +kernel
theorem own_d1_10 : decode jdk_29_method_65_code 10 = .ok (.ireturn, 1) := by decide +kernel
theorem own_d1_5 : decode jdk_29_method_65_code 5 = .ok (.iload_n 0, 1) := by decide +kernel
theorem own_d1_6 : decode jdk_29_method_65_code 6 = .ok (.goto 4, 3) := by decide +kernel
theorem own_ef1 (m : MethodId) (p0 : Int32) (p1 : Int32) : entryFrame m #[(.int p0), (.int p1)] 2 = mkF m 0 #[.val (.int p0), .val (.int p1)] [] := by first | (simp [entryFrame, mkF, argsToLocals, Value.category]; done) | rfl
def own_f1 (p0 : Int32) (p1 : Int32) : Int32 := (if p0 < p1 then p1 else p0)
set_option maxRecDepth 65536 in
set_option maxHeartbeats 40000000 in
theorem own_m1 (l : Launch) (Z : State) (a0 : Array Value) (hw : ∀ d ∈ tables_1, d.before a0 Z = true) (ws : List Jvm.Cond) (p0 : Int32) (p1 : Int32)  (h0 : Heap) (n0 : Nat) (Z0 : n0 ≤ h0.size)  :
    own_Met l Z (⟨"java/lang/Math", "max", "(II)I"⟩ : MethodName) jdk_29_method_65_code 2 (some .int) ws ({ frames := 0, cells := 0, slots := 0, locals := 0 } : Room) #[(.int p0), (.int p1)] h0 (fun (v : Option Value) (h : Heap) (L : List Loc) => v = some (.int (own_f1 p0 p1)) ∧ Fr n0 L ∧ h = h0) := by
  refine own_enter (Jvm.Free.JP.mathPlain rfl (by decide +kernel)) ?_
  intro p e s m below meth c s₁ P hx hby hml hrt hlk hown hnm hZ X0 e0 hP
  have N0 := Fr.nil n0
  have K0 := Keep.refl h0 []
  have hml' : c.maxLocals = 2 := hml
  refine own_cast (own_ef1 m p0 p1) ?_
  show own_End p e below P (s₁.setTop (mkF m 0 #[.val (.int p0), .val (.int p1)] []))
  refine own_st (fun _ => XS.iloadN X0.here hx rfl (hb hby own_d1_0) rfl) ?_
  show own_End p e below P (s₁.setTop (mkF m 1 #[.val (.int p0), .val (.int p1)] [(.int p0)]))
  refine own_st (fun _ => XS.iloadN X0.here hx rfl (hb hby own_d1_1) rfl) ?_
  show own_End p e below P (s₁.setTop (mkF m 2 #[.val (.int p0), .val (.int p1)] [(.int p1), (.int p0)]))
  by_cases hc1 : p0 < p1
  · refine own_st (fun _ => XS.icmpYes X0.here hx rfl (pc0 := 2) (pc' := 9) rfl (hb hby own_d1_2) rfl (tlt hc1).1 (by decide) (by decide)) ?_
    show own_End p e below P (s₁.setTop (mkF m 9 #[.val (.int p0), .val (.int p1)] []))
    refine own_st (fun _ => XS.iloadN X0.here hx rfl (hb hby own_d1_9) rfl) ?_
    show own_End p e below P (s₁.setTop (mkF m 10 #[.val (.int p0), .val (.int p1)] [(.int p1)]))
    refine own_retI X0 hx hlk hP hrt (hb hby own_d1_10) (by decide) (by decide) ⟨congrArg (fun z => some (Value.int z)) ?_, N0, e0⟩
    exact (show own_f1 p0 p1 = p1 from (if_pos hc1).trans (rfl)).symm
  · refine own_st (fun _ => XS.icmpNo X0.here hx rfl (hb hby own_d1_2) rfl (flt hc1).1) ?_
    show own_End p e below P (s₁.setTop (mkF m 5 #[.val (.int p0), .val (.int p1)] []))
    refine own_st (fun _ => XS.iloadN X0.here hx rfl (hb hby own_d1_5) rfl) ?_
    show own_End p e below P (s₁.setTop (mkF m 6 #[.val (.int p0), .val (.int p1)] [(.int p0)]))
    refine own_st (fun _ => XS.goto X0.here hx rfl (pc0 := 6) (pc' := 10) rfl (hb hby own_d1_6) (by decide) (by decide)) ?_
    show own_End p e below P (s₁.setTop (mkF m 10 #[.val (.int p0), .val (.int p1)] [(.int p0)]))
    refine own_retI X0 hx hlk hP hrt (hb hby own_d1_10) (by decide) (by decide) ⟨congrArg (fun z => some (Value.int z)) ?_, N0, e0⟩
    exact (show own_f1 p0 p1 = p0 from (if_neg hc1).trans (rfl)).symm
theorem own_d2_0 : decode prog_22_method_4_code 0 = .ok (.iload_n 0, 1) := by decide +kernel
theorem own_d2_1 : decode prog_22_method_4_code 1 = .ok (.iconst 1, 1) := by decide +kernel
theorem own_d2_2 : decode prog_22_method_4_code 2 = .ok (.if_icmp .ge 17, 3) := by decide +kernel
theorem own_d2_19 : decode prog_22_method_4_code 19 = .ok (.return_, 1) := by decide +kernel
theorem own_ef2 (m : MethodId) (p0 : Int32) : entryFrame m #[(.int p0)] 1 = mkF m 0 #[.val (.int p0)] [] := by first | (simp [entryFrame, mkF, argsToLocals, Value.category]; done) | rfl
theorem own_pn_com_example_weiche_weiche_net_Interval : plainName "com/example/weiche/weiche/net/Interval" = true := by first | (simp [plainName, overriddenIn]; done) | decide +kernel
set_option maxRecDepth 65536 in
set_option maxHeartbeats 40000000 in
theorem own_m2 (l : Launch) (Z : State) (a0 : Array Value) (hw : ∀ d ∈ tables_1, d.before a0 Z = true) (ws : List Jvm.Cond) (p0 : Int32)  (h0 : Heap) (n0 : Nat) (Z0 : n0 ≤ h0.size) (hl : ¬ (p0 < (1 : Int32))) :
    own_Met l Z (⟨"com/example/weiche/weiche/net/Interval", "checkLower", "(I)V"⟩ : MethodName) prog_22_method_4_code 1 none ws ({ frames := 0, cells := 0, slots := 0, locals := 0 } : Room) #[(.int p0)] h0 (fun (v : Option Value) (h : Heap) (L : List Loc) => v = none ∧ Fr n0 L ∧ h = h0) := by
  refine own_enter (plainFor_of_name own_pn_com_example_weiche_weiche_net_Interval) ?_
  intro p e s m below meth c s₁ P hx hby hml hrt hlk hown hnm hZ X0 e0 hP
  have N0 := Fr.nil n0
  have K0 := Keep.refl h0 []
  have hml' : c.maxLocals = 1 := hml
  refine own_cast (own_ef2 m p0) ?_
  show own_End p e below P (s₁.setTop (mkF m 0 #[.val (.int p0)] []))
  refine own_st (fun _ => XS.iloadN X0.here hx rfl (hb hby own_d2_0) rfl) ?_
  show own_End p e below P (s₁.setTop (mkF m 1 #[.val (.int p0)] [(.int p0)]))
  refine own_st (fun _ => XS.iconst X0.here hx rfl (hb hby own_d2_1)) ?_
  show own_End p e below P (s₁.setTop (mkF m 2 #[.val (.int p0)] [(.int (1 : Int32)), (.int p0)]))
  refine own_st (fun _ => XS.icmpYes X0.here hx rfl (pc0 := 2) (pc' := 19) rfl (hb hby own_d2_2) rfl (flt hl).2.1 (by decide) (by decide)) ?_
  show own_End p e below P (s₁.setTop (mkF m 19 #[.val (.int p0)] []))
  exact own_retV X0 hx hlk hP hrt (hb hby own_d2_19) (by decide) (by decide) ⟨rfl, N0, e0⟩
theorem own_d3_0 : decode jdk_2649_method_2_code 0 = .ok (.getstatic 17, 3) := by decide +kernel
theorem own_d3_3 : decode jdk_2649_method_2_code 3 = .ok (.areturn, 1) := by decide +kernel
theorem own_ef3 (m : MethodId)  : entryFrame m #[] 0 = mkF m 0 #[] [] := by first | (simp [entryFrame, mkF, argsToLocals, Value.category]; done) | rfl
theorem own_pn_java_util_OptionalInt : plainName "java/util/OptionalInt" = true := by first | (simp [plainName, overriddenIn]; done) | decide +kernel
set_option maxRecDepth 65536 in
set_option maxHeartbeats 40000000 in
theorem own_m3 (l : Launch) (Z : State) (a0 : Array Value) (hw : ∀ d ∈ tables_1, d.before a0 Z = true) (ws : List Jvm.Cond)  (s_OptionalInt_EMPTY : Addr) (h0 : Heap) (n0 : Nat) (Z0 : n0 ≤ h0.size) (S_OptionalInt_EMPTY : Sta Z h0 "java/util/OptionalInt" "EMPTY" "Ljava/util/OptionalInt;" (.ref s_OptionalInt_EMPTY)) :
    own_Met l Z (⟨"java/util/OptionalInt", "empty", "()Ljava/util/OptionalInt;"⟩ : MethodName) jdk_2649_method_2_code 0 (some (.object "java/util/OptionalInt")) ws ({ frames := 0, cells := 0, slots := 0, locals := 0 } : Room) #[] h0 (fun (v : Option Value) (h : Heap) (L : List Loc) => v = some (.ref s_OptionalInt_EMPTY) ∧ Fr n0 L ∧ h = h0) := by
  refine own_enter (plainFor_of_name own_pn_java_util_OptionalInt) ?_
  intro p e s m below meth c s₁ P hx hby hml hrt hlk hown hnm hZ X0 e0 hP
  have N0 := Fr.nil n0
  have K0 := Keep.refl h0 []
  have hml' : c.maxLocals = 0 := hml
  refine own_cast (own_ef3 m ) ?_
  show own_End p e below P (s₁.setTop (mkF m 0 #[] []))
  obtain ⟨T1, X1, e1, st1⟩ := getS2 X0 hx hZ hown (host := "") (Or.inl (hw _ (List.mem_of_getElem? (i := 18) rfl))) Via.refl e0 S_OptionalInt_EMPTY (g := (mkF m 0 #[] [])) rfl (hb hby own_d3_0)
  refine own_st (fun _ => st1 _) ?_
  show own_End p e below P (T1.setTop (mkF m 3 #[] [(.ref s_OptionalInt_EMPTY)]))
  exact own_retR X1 hx hlk hP rfl rfl hrt (hb hby own_d3_3) (by decide) (by decide) ⟨rfl, N0, e1⟩
theorem own_d4_0 : decode prog_22_method_1_code 0 = .ok (.aload_n 0, 1) := by decide +kernel
theorem own_d4_1 : decode prog_22_method_1_code 1 = .ok (.invokespecial 1, 3) := by decide +kernel
theorem own_d4_4 : decode prog_22_method_1_code 4 = .ok (.aload_n 0, 1) := by decide +kernel
theorem own_d4_5 : decode prog_22_method_1_code 5 = .ok (.iload_n 1, 1) := by decide +kernel
theorem own_d4_6 : decode prog_22_method_1_code 6 = .ok (.putfield 7, 3) := by decide +kernel
theorem own_d4_9 : decode prog_22_method_1_code 9 = .ok (.aload_n 0, 1) := by decide +kernel
theorem own_d4_10 : decode prog_22_method_1_code 10 = .ok (.aload_n 2, 1) := by decide +kernel
theorem own_d4_11 : decode prog_22_method_1_code 11 = .ok (.putfield 13, 3) := by decide +kernel
theorem own_d4_14 : decode prog_22_method_1_code 14 = .ok (.return_, 1) := by decide +kernel
theorem own_ef4 (m : MethodId) (o0 : Addr) (p1 : Int32) (o2 : Addr) : entryFrame m #[(.ref o0), (.int p1), (.ref o2)] 3 = mkF m 0 #[.val (.ref o0), .val (.int p1), .val (.ref o2)] [] := by first | (simp [entryFrame, mkF, argsToLocals, Value.category]; done) | rfl
set_option maxRecDepth 65536 in
set_option maxHeartbeats 40000000 in
theorem own_m4 (l : Launch) (Z : State) (a0 : Array Value) (hw : ∀ d ∈ tables_1, d.before a0 Z = true) (ws : List Jvm.Cond) (o0 : Addr) (p1 : Int32) (o2 : Addr)  (h0 : Heap) (n0 : Nat) (Z0 : n0 ≤ h0.size) (E_o0 : Exa Z h0 o0 "com/example/weiche/weiche/net/Interval") (F_o0_lower : Fld Z h0 o0 "com/example/weiche/weiche/net/Interval" "lower" "I" (.int (0 : Int32))) (F_o0_upper : Fld Z h0 o0 "com/example/weiche/weiche/net/Interval" "upper" "Ljava/util/OptionalInt;" .null) (low_o0 : n0 ≤ o0) :
    own_Met l Z (⟨"com/example/weiche/weiche/net/Interval", "<init>", "(ILjava/util/OptionalInt;)V"⟩ : MethodName) prog_22_method_1_code 3 none ws ({ frames := 1, cells := 0, slots := 0, locals := 12 } : Room) #[(.ref o0), (.int p1), (.ref o2)] h0 (fun (v : Option Value) (h : Heap) (L : List Loc) => v = none ∧ Fr n0 L ∧ Keep h0 h [o0] ∧ Exa Z h o0 "com/example/weiche/weiche/net/Interval" ∧ Fld Z h o0 "com/example/weiche/weiche/net/Interval" "lower" "I" (.int p1) ∧ Fld Z h o0 "com/example/weiche/weiche/net/Interval" "upper" "Ljava/util/OptionalInt;" (.ref o2)) := by
  refine own_enter (plainFor_of_name own_pn_com_example_weiche_weiche_net_Interval) ?_
  intro p e s m below meth c s₁ P hx hby hml hrt hlk hown hnm hZ X0 e0 hP
  have N0 := Fr.nil n0
  have K0 := Keep.refl h0 [o0]
  have hml' : c.maxLocals = 3 := hml
  refine own_cast (own_ef4 m o0 p1 o2) ?_
  show own_End p e below P (s₁.setTop (mkF m 0 #[.val (.ref o0), .val (.int p1), .val (.ref o2)] []))
  refine own_st (fun _ => XS.aloadN X0.here hx rfl (hb hby own_d4_0) rfl rfl) ?_
  show own_End p e below P (s₁.setTop (mkF m 1 #[.val (.ref o0), .val (.int p1), .val (.ref o2)] [(.ref o0)]))
  obtain ⟨T1, X1, e1, st1⟩ := initO X0 hx hZ hown (hw _ (List.mem_of_getElem? (i := 22) rfl)) (hw _ (List.mem_of_getElem? (i := 23) rfl)) (hw _ (List.mem_of_getElem? (i := 24) rfl)) e0 (g := (mkF m 1 #[.val (.ref o0), .val (.int p1), .val (.ref o2)] [(.ref o0)])) rfl (by rw [hml']; rfl) rfl (hb hby own_d4_1) (by decide) (W := 0) (by show 2 * 0 + _ ≤ _; exact Nat.le_of_eq rfl) (by decide)
  refine own_st (fun _ => st1 _) ?_
  show own_End p e below P (T1.setTop (mkF m 4 #[.val (.ref o0), .val (.int p1), .val (.ref o2)] []))
  refine own_st (fun _ => XS.aloadN X1.here hx rfl (hb hby own_d4_4) rfl rfl) ?_
  show own_End p e below P (T1.setTop (mkF m 5 #[.val (.ref o0), .val (.int p1), .val (.ref o2)] [(.ref o0)]))
  refine own_st (fun _ => XS.iloadN X1.here hx rfl (hb hby own_d4_5) rfl) ?_
  show own_End p e below P (T1.setTop (mkF m 6 #[.val (.ref o0), .val (.int p1), .val (.ref o2)] [(.int p1), (.ref o0)]))
  obtain ⟨T2, h2, X2, e2, W2, st2⟩ := putF X1 hx hZ hown (host := "") (Or.inl (hw _ (List.mem_of_getElem? (i := 25) rfl))) Via.refl e1 F_o0_lower E_o0 (Or.inr ⟨(hw _ (List.mem_of_getElem? (i := 26) rfl)), rfl, hnm⟩) (hw _ (List.mem_of_getElem? (i := 13) rfl)) (ty := .int) (by decide) rfl rfl (g := (mkF m 6 #[.val (.ref o0), .val (.int p1), .val (.ref o2)] [(.int p1), (.ref o0)])) rfl rfl (hb hby own_d4_6)
  have N2 := Fr.snoc X2 N0 low_o0
  have K2 := Keep.wr K0 W2 (Or.inl (List.mem_of_getElem? (i := 0) rfl))
  have F2 := F_o0_lower.same W2
  refine own_st (fun _ => st2 _) ?_
  show own_End p e below P (T2.setTop (mkF m 9 #[.val (.ref o0), .val (.int p1), .val (.ref o2)] []))
  refine own_st (fun _ => XS.aloadN X2.here hx rfl (hb hby own_d4_9) rfl rfl) ?_
  show own_End p e below P (T2.setTop (mkF m 10 #[.val (.ref o0), .val (.int p1), .val (.ref o2)] [(.ref o0)]))
  refine own_st (fun _ => XS.aloadN X2.here hx rfl (hb hby own_d4_10) rfl rfl) ?_
  show own_End p e below P (T2.setTop (mkF m 11 #[.val (.ref o0), .val (.int p1), .val (.ref o2)] [(.ref o2), (.ref o0)]))
  have G3 := (F_o0_upper.other W2 (Or.inr (slot_ne (Or.inr (hw _ (List.mem_of_getElem? (i := 28) rfl))) (Or.inr (hw _ (List.mem_of_getElem? (i := 26) rfl))) (by decide) (t := (.object "java/util/OptionalInt")) (t' := .int) (by decide) (by decide))))
  have G4 := (E_o0.wr W2)
  obtain ⟨T5, h5, X5, e5, W5, st5⟩ := putF X2 hx hZ hown (host := "") (Or.inl (hw _ (List.mem_of_getElem? (i := 27) rfl))) Via.refl e2 G3 G4 (Or.inr ⟨(hw _ (List.mem_of_getElem? (i := 28) rfl)), rfl, hnm⟩) (hw _ (List.mem_of_getElem? (i := 13) rfl)) (ty := (.object "java/util/OptionalInt")) (by decide) rfl rfl (g := (mkF m 11 #[.val (.ref o0), .val (.int p1), .val (.ref o2)] [(.ref o2), (.ref o0)])) rfl rfl (hb hby own_d4_11)
  have N5 := Fr.snoc X5 N2 low_o0
  have K5 := Keep.wr K2 W5 (Or.inl (List.mem_of_getElem? (i := 0) rfl))
  have F5 := G3.same W5
  refine own_st (fun _ => st5 _) ?_
  show own_End p e below P (T5.setTop (mkF m 14 #[.val (.ref o0), .val (.int p1), .val (.ref o2)] []))
  have G6 := (G4.wr W5)
  have G7 := (F2.other W5 (Or.inr (slot_ne (Or.inr (hw _ (List.mem_of_getElem? (i := 26) rfl))) (Or.inr (hw _ (List.mem_of_getElem? (i := 28) rfl))) (by decide) (t := .int) (t' := (.object "java/util/OptionalInt")) (by decide) (by decide))))
  have hfin : ((fun (v : Option Value) (h : Heap) (L : List Loc) => v = none ∧ Fr n0 L ∧ Keep h0 h [o0] ∧ Exa Z h o0 "com/example/weiche/weiche/net/Interval" ∧ Fld Z h o0 "com/example/weiche/weiche/net/Interval" "lower" "I" (.int p1) ∧ Fld Z h o0 "com/example/weiche/weiche/net/Interval" "upper" "Ljava/util/OptionalInt;" (.ref o2))) none h5 _ := ⟨rfl, N5, K5, G6, G7, F5⟩
  refine own_retV X5 hx hlk hP hrt (hb hby own_d4_14) (by decide) (by decide) ?_
  rw [e5]; exact hfin
theorem own_d5_0 : decode prog_22_method_3_code 0 = .ok (.iload_n 0, 1) := by decide +kernel
theorem own_d5_1 : decode prog_22_method_3_code 1 = .ok (.invokestatic 17, 3) := by decide +kernel
theorem own_pd_I_V_240 : parseMethodDescriptor "(I)V" = some ⟨[.int], none⟩ := by decide +kernel
theorem own_d5_4 : decode prog_22_method_3_code 4 = .ok (.new 8, 3) := by decide +kernel
theorem own_d5_7 : decode prog_22_method_3_code 7 = .ok (.dup, 1) := by decide +kernel
theorem own_d5_8 : decode prog_22_method_3_code 8 = .ok (.iload_n 0, 1) := by decide +kernel
theorem own_d5_9 : decode prog_22_method_3_code 9 = .ok (.invokestatic 39, 3) := by decide +kernel
theorem own_pd_Ljava_util_OptionalInt_317 : parseMethodDescriptor "()Ljava/util/OptionalInt;" = some ⟨[], some (.object "java/util/OptionalInt")⟩ := by decide +kernel
theorem own_d5_12 : decode prog_22_method_3_code 12 = .ok (.invokespecial 36, 3) := by decide +kernel
theorem own_pd_ILjava_util_OptionalInt__V_476 : parseMethodDescriptor "(ILjava/util/OptionalInt;)V" = some ⟨[.int, (.object "java/util/OptionalInt")], none⟩ := by decide +kernel
theorem own_d5_15 : decode prog_22_method_3_code 15 = .ok (.areturn, 1) := by decide +kernel
theorem own_ef5 (m : MethodId) (p0 : Int32) : entryFrame m #[(.int p0)] 1 = mkF m 0 #[.val (.int p0)] [] := by first | (simp [entryFrame, mkF, argsToLocals, Value.category]; done) | rfl
set_option maxRecDepth 65536 in
set_option maxHeartbeats 40000000 in
theorem own_m5 (l : Launch) (Z : State) (a0 : Array Value) (hw : ∀ d ∈ tables_1, d.before a0 Z = true) (ws : List Jvm.Cond) (p0 : Int32) (s_OptionalInt_EMPTY : Addr) (h0 : Heap) (n0 : Nat) (Z0 : n0 ≤ h0.size) (S_OptionalInt_EMPTY : Sta Z h0 "java/util/OptionalInt" "EMPTY" "Ljava/util/OptionalInt;" (.ref s_OptionalInt_EMPTY)) (hl : ¬ (p0 < (1 : Int32))) :
    own_Met l Z (⟨"com/example/weiche/weiche/net/Interval", "unbounded", "(I)Lcom/example/weiche/weiche/net/Interval;"⟩ : MethodName) prog_22_method_3_code 1 (some (.object "com/example/weiche/weiche/net/Interval")) ws ({ frames := 2, cells := 1, slots := 2, locals := 27 } : Room) #[(.int p0)] h0 (fun (v : Option Value) (h : Heap) (L : List Loc) => ∃ (b2 : Addr), v = some (.ref b2) ∧ Fr n0 L ∧ Keep h0 h [] ∧ h0.size ≤ b2 ∧ n0 ≤ b2 ∧ Exa Z h b2 "com/example/weiche/weiche/net/Interval" ∧ Fld Z h b2 "com/example/weiche/weiche/net/Interval" "lower" "I" (.int p0) ∧ Fld Z h b2 "com/example/weiche/weiche/net/Interval" "upper" "Ljava/util/OptionalInt;" (.ref s_OptionalInt_EMPTY)) := by
  refine own_enter (plainFor_of_name own_pn_com_example_weiche_weiche_net_Interval) ?_
  intro p e s m below meth c s₁ P hx hby hml hrt hlk hown hnm hZ X0 e0 hP
  have N0 := Fr.nil n0
  have K0 := Keep.refl h0 []
  have hml' : c.maxLocals = 1 := hml
  refine own_cast (own_ef5 m p0) ?_
  show own_End p e below P (s₁.setTop (mkF m 0 #[.val (.int p0)] []))
  refine own_st (fun _ => XS.iloadN X0.here hx rfl (hb hby own_d5_0) rfl) ?_
  show own_End p e below P (s₁.setTop (mkF m 1 #[.val (.int p0)] [(.int p0)]))
  refine own_callS X0 hx hZ (y := (⟨"com/example/weiche/weiche/net/Interval", "checkLower", "(I)V"⟩ : MethodName)) hown (hw _ (List.mem_of_getElem? (i := 9) rfl)) (hw _ (List.mem_of_getElem? (i := 10) rfl)) (hw _ (List.mem_of_getElem? (i := 7) rfl)) (hw _ (List.mem_of_getElem? (i := 11) rfl)) (by decide) (own_m2 l Z a0 hw [] p0  h0 n0 Z0 hl) 0 (by decide) (by decide) e0 (by decide) (by decide) (g := (mkF m 1 #[.val (.int p0)] [(.int p0)])) rfl (by rw [hml']; rfl) (argsL := [(.int p0)]) (rest := []) rfl (lenOf own_pd_I_V_240 rfl) rfl (by show 2 * 0 + _ ≤ _; exact Nat.le_of_eq rfl) (hb hby own_d5_1) (fun r1 T1 L1 X1 hQ1 => ?_)
  obtain ⟨rfl, Nq1, eq1⟩ := hQ1
  have N1 := Fr.app N0 Nq1
  show own_End p e below P (T1.setTop (mkF m 4 #[.val (.int p0)] []))
  obtain ⟨T2, h2, X2, e2, E2, A2, D2, -, st2⟩ := newO X1 hx hZ hown (hw _ (List.mem_of_getElem? (i := 12) rfl)) (hw _ (List.mem_of_getElem? (i := 13) rfl)) (hw _ (List.mem_of_getElem? (i := 7) rfl)) eq1 (g := (mkF m 4 #[.val (.int p0)] [])) rfl (hb hby own_d5_4) (by decide) (by decide)
  obtain ⟨b2, g2⟩ : ∃ z, z = h0.size := ⟨_, rfl⟩
  rw [← g2] at A2 D2 st2
  have low_b2 : n0 ≤ b2 := Nat.le_trans Z0 (Nat.le_of_eq g2.symm)
  have sz_b2 : h0.size ≤ b2 := Nat.le_trans K0.1 (Nat.le_of_eq g2.symm)
  have Z2 := Nat.le_trans Z0 E2.1
  have K2 := Keep.ext K0 E2
  have F_b2_lower : Fld Z h2 b2 "com/example/weiche/weiche/net/Interval" "lower" "I" (.int (0 : Int32)) := D2 (Or.inr (hw _ (List.mem_of_getElem? (i := 26) rfl))) (ty := .int) (by decide)
  have F_b2_upper : Fld Z h2 b2 "com/example/weiche/weiche/net/Interval" "upper" "Ljava/util/OptionalInt;" .null := D2 (Or.inr (hw _ (List.mem_of_getElem? (i := 28) rfl))) (ty := (.object "java/util/OptionalInt")) (by decide)
  refine own_st (fun _ => st2 _) ?_
  show own_End p e below P (T2.setTop (mkF m 7 #[.val (.int p0)] [(.ref b2)]))
  refine own_st (fun _ => XS.dup X2.here hx rfl (hb hby own_d5_7) rfl rfl) ?_
  show own_End p e below P (T2.setTop (mkF m 8 #[.val (.int p0)] [(.ref b2), (.ref b2)]))
  refine own_st (fun _ => XS.iloadN X2.here hx rfl (hb hby own_d5_8) rfl) ?_
  show own_End p e below P (T2.setTop (mkF m 9 #[.val (.int p0)] [(.int p0), (.ref b2), (.ref b2)]))
  have G4 := (S_OptionalInt_EMPTY.ext E2)
  refine own_callS X2 hx hZ (y := (⟨"java/util/OptionalInt", "empty", "()Ljava/util/OptionalInt;"⟩ : MethodName)) hown (hw _ (List.mem_of_getElem? (i := 14) rfl)) (hw _ (List.mem_of_getElem? (i := 15) rfl)) (hw _ (List.mem_of_getElem? (i := 16) rfl)) (hw _ (List.mem_of_getElem? (i := 17) rfl)) (by decide) (own_m3 l Z a0 hw []  s_OptionalInt_EMPTY h2 n0 Z2 G4) 3 (by decide) (by decide) e2 (by decide) (by decide) (g := (mkF m 9 #[.val (.int p0)] [(.int p0), (.ref b2), (.ref b2)])) rfl (by rw [hml']; rfl) (argsL := []) (rest := [(.int p0), (.ref b2), (.ref b2)]) rfl (lenOf own_pd_Ljava_util_OptionalInt_317 rfl) rfl (by show 2 * 0 + _ ≤ _; exact Nat.le_of_eq rfl) (hb hby own_d5_9) (fun r3 T3 L3 X3 hQ3 => ?_)
  obtain ⟨rfl, Nq3, eq3⟩ := hQ3
  have N3 := Fr.app N1 Nq3
  show own_End p e below P (T3.setTop (mkF m 12 #[.val (.int p0)] [(.ref s_OptionalInt_EMPTY), (.int p0), (.ref b2), (.ref b2)]))
  refine own_callI X3 hx hZ (y := (⟨"com/example/weiche/weiche/net/Interval", "<init>", "(ILjava/util/OptionalInt;)V"⟩ : MethodName)) rfl hown (hw _ (List.mem_of_getElem? (i := 19) rfl)) (hw _ (List.mem_of_getElem? (i := 20) rfl)) (hw _ (List.mem_of_getElem? (i := 7) rfl)) (hw _ (List.mem_of_getElem? (i := 21) rfl)) (by decide) (own_m4 l Z a0 hw [] b2 p0 s_OptionalInt_EMPTY  h2 n0 Z2 A2 F_b2_lower F_b2_upper low_b2) 1 (by decide) (by decide) eq3 (by decide) (by decide) (g := (mkF m 12 #[.val (.int p0)] [(.ref s_OptionalInt_EMPTY), (.int p0), (.ref b2), (.ref b2)])) rfl (by rw [hml']; rfl) (a := b2) (argsL := [(.int p0), (.ref s_OptionalInt_EMPTY)]) (rest := [(.ref b2)]) rfl (lenOf own_pd_ILjava_util_OptionalInt__V_476 rfl) rfl (by show 2 * 0 + _ ≤ _; exact Nat.le_of_eq rfl) (hb hby own_d5_12) (fun r5 T5 L5 X5 hQ5 => ?_)
  obtain ⟨rfl, Nq5, Kq5, f0_5, f1_5, f2_5⟩ := hQ5
  have N5 := Fr.app N3 Nq5
  have K5 := Keep.trans K2 Kq5 (allS (Or.inr sz_b2) all0)
  have Z5 := Nat.le_trans Z2 Kq5.1
  show own_End p e below P (T5.setTop (mkF m 15 #[.val (.int p0)] [(.ref b2)]))
  have hfin : ((fun (v : Option Value) (h : Heap) (L : List Loc) => ∃ (b2 : Addr), v = some (.ref b2) ∧ Fr n0 L ∧ Keep h0 h [] ∧ h0.size ≤ b2 ∧ n0 ≤ b2 ∧ Exa Z h b2 "com/example/weiche/weiche/net/Interval" ∧ Fld Z h b2 "com/example/weiche/weiche/net/Interval" "lower" "I" (.int p0) ∧ Fld Z h b2 "com/example/weiche/weiche/net/Interval" "upper" "Ljava/util/OptionalInt;" (.ref s_OptionalInt_EMPTY))) (some (.ref b2)) T5.heap _ := ⟨b2, rfl, N5, K5, sz_b2, low_b2, f0_5, f1_5, f2_5⟩
  refine own_retR X5 hx hlk hP rfl rfl hrt (hb hby own_d5_15) (by decide) (by decide) ?_
  exact hfin
theorem own_d6_0 : decode prog_22_method_5_code 0 = .ok (.aload_n 0, 1) := by decide +kernel
theorem own_d6_1 : decode prog_22_method_5_code 1 = .ok (.getfield 7, 3) := by decide +kernel
theorem own_d6_4 : decode prog_22_method_5_code 4 = .ok (.ireturn, 1) := by decide +kernel
theorem own_ef6 (m : MethodId) (o0 : Addr) : entryFrame m #[(.ref o0)] 1 = mkF m 0 #[.val (.ref o0)] [] := by first | (simp [entryFrame, mkF, argsToLocals, Value.category]; done) | rfl
def own_f6 (w_o0_lower : Int32) : Int32 := w_o0_lower
set_option maxRecDepth 65536 in
set_option maxHeartbeats 40000000 in
theorem own_m6 (l : Launch) (Z : State) (a0 : Array Value) (hw : ∀ d ∈ tables_1, d.before a0 Z = true) (ws : List Jvm.Cond) (o0 : Addr) (w_o0_lower : Int32) (h0 : Heap) (n0 : Nat) (Z0 : n0 ≤ h0.size) (F_o0_lower : Fld Z h0 o0 "com/example/weiche/weiche/net/Interval" "lower" "I" (.int w_o0_lower)) :
    own_Met l Z (⟨"com/example/weiche/weiche/net/Interval", "lower", "()I"⟩ : MethodName) prog_22_method_5_code 1 (some .int) ws ({ frames := 0, cells := 0, slots := 0, locals := 0 } : Room) #[(.ref o0)] h0 (fun (v : Option Value) (h : Heap) (L : List Loc) => v = some (.int (own_f6 w_o0_lower)) ∧ Fr n0 L ∧ h = h0) := by
  refine own_enter (plainFor_of_name own_pn_com_example_weiche_weiche_net_Interval) ?_
  intro p e s m below meth c s₁ P hx hby hml hrt hlk hown hnm hZ X0 e0 hP
  have N0 := Fr.nil n0
  have K0 := Keep.refl h0 []
  have hml' : c.maxLocals = 1 := hml
  refine own_cast (own_ef6 m o0) ?_
  show own_End p e below P (s₁.setTop (mkF m 0 #[.val (.ref o0)] []))
  refine own_st (fun _ => XS.aloadN X0.here hx rfl (hb hby own_d6_0) rfl rfl) ?_
  show own_End p e below P (s₁.setTop (mkF m 1 #[.val (.ref o0)] [(.ref o0)]))
  obtain ⟨T1, X1, e1, st1⟩ := getF X0 hx hZ hown (host := "") (Or.inl (hw _ (List.mem_of_getElem? (i := 25) rfl))) Via.refl e0 F_o0_lower (g := (mkF m 1 #[.val (.ref o0)] [(.ref o0)])) rfl rfl (hb hby own_d6_1)
  refine own_st (fun _ => st1 _) ?_
  show own_End p e below P (T1.setTop (mkF m 4 #[.val (.ref o0)] [(.int w_o0_lower)]))
  refine own_retI X1 hx hlk hP hrt (hb hby own_d6_4) (by decide) (by decide) ⟨congrArg (fun z => some (Value.int z)) ?_, N0, e1⟩
  exact (show own_f6 w_o0_lower = w_o0_lower from rfl).symm
theorem own_d7_0 : decode jdk_2649_method_6_code 0 = .ok (.aload_n 0, 1) := by decide +kernel
theorem own_d7_1 : decode jdk_2649_method_6_code 1 = .ok (.getfield 7, 3) := by decide +kernel
theorem own_d7_4 : decode jdk_2649_method_6_code 4 = .ok (.ireturn, 1) := by decide +kernel
theorem own_ef7 (m : MethodId) (o0 : Addr) : entryFrame m #[(.ref o0)] 1 = mkF m 0 #[.val (.ref o0)] [] := by first | (simp [entryFrame, mkF, argsToLocals, Value.category]; done) | rfl
def own_f7  : Int32 := (0 : Int32)
set_option maxRecDepth 65536 in
set_option maxHeartbeats 40000000 in
theorem own_m7 (l : Launch) (Z : State) (a0 : Array Value) (hw : ∀ d ∈ tables_1, d.before a0 Z = true) (ws : List Jvm.Cond) (o0 : Addr)  (h0 : Heap) (n0 : Nat) (Z0 : n0 ≤ h0.size) (F_o0_isPresent : Fld Z h0 o0 "java/util/OptionalInt" "isPresent" "Z" (.int (0 : Int32))) :
    own_Met l Z (⟨"java/util/OptionalInt", "isPresent", "()Z"⟩ : MethodName) jdk_2649_method_6_code 1 (some .boolean) ws ({ frames := 0, cells := 0, slots := 0, locals := 0 } : Room) #[(.ref o0)] h0 (fun (v : Option Value) (h : Heap) (L : List Loc) => v = some (.int (own_f7 )) ∧ Fr n0 L ∧ h = h0) := by
  refine own_enter (plainFor_of_name own_pn_java_util_OptionalInt) ?_
  intro p e s m below meth c s₁ P hx hby hml hrt hlk hown hnm hZ X0 e0 hP
  have N0 := Fr.nil n0
  have K0 := Keep.refl h0 []
  have hml' : c.maxLocals = 1 := hml
  refine own_cast (own_ef7 m o0) ?_
  show own_End p e below P (s₁.setTop (mkF m 0 #[.val (.ref o0)] []))
  refine own_st (fun _ => XS.aloadN X0.here hx rfl (hb hby own_d7_0) rfl rfl) ?_
  show own_End p e below P (s₁.setTop (mkF m 1 #[.val (.ref o0)] [(.ref o0)]))
  obtain ⟨T1, X1, e1, st1⟩ := getF X0 hx hZ hown (host := "") (Or.inl (hw _ (List.mem_of_getElem? (i := 44) rfl))) Via.refl e0 F_o0_isPresent (g := (mkF m 1 #[.val (.ref o0)] [(.ref o0)])) rfl rfl (hb hby own_d7_1)
  refine own_st (fun _ => st1 _) ?_
  show own_End p e below P (T1.setTop (mkF m 4 #[.val (.ref o0)] [(.int (0 : Int32))]))
  refine own_retN X1 hx hlk hP (t := .boolean) (by simp) hrt (hb hby own_d7_4) (by decide) (by decide) ⟨congrArg (fun z => some (Value.int z)) ?_, N0, e1⟩
  exact (show own_f7  = (0 : Int32) from rfl).symm
theorem own_d8_0 : decode prog_22_method_8_code 0 = .ok (.aload_n 0, 1) := by decide +kernel
theorem own_d8_1 : decode prog_22_method_8_code 1 = .ok (.getfield 13, 3) := by decide +kernel
theorem own_d8_4 : decode prog_22_method_8_code 4 = .ok (.invokevirtual 50, 3) := by decide +kernel
theorem own_pd_Z_171 : parseMethodDescriptor "()Z" = some ⟨[], some .boolean⟩ := by decide +kernel
theorem own_d8_7 : decode prog_22_method_8_code 7 = .ok (.ifCond .eq 20, 3) := by decide +kernel
theorem own_d8_27 : decode prog_22_method_8_code 27 = .ok (.iconst 0, 1) := by decide +kernel
theorem own_d8_28 : decode prog_22_method_8_code 28 = .ok (.ireturn, 1) := by decide +kernel
theorem own_ef8 (m : MethodId) (o0 : Addr) (q1 : Int64) : entryFrame m #[(.ref o0), (.long q1)] 3 = mkF m 0 #[.val (.ref o0), .val (.long q1), .second] [] := by first | (simp [entryFrame, mkF, argsToLocals, Value.category]; done) | rfl
def own_f8 (q1 : Int64) : Int32 := (0 : Int32)
set_option maxRecDepth 65536 in
set_option maxHeartbeats 40000000 in
theorem own_m8 (l : Launch) (Z : State) (a0 : Array Value) (hw : ∀ d ∈ tables_1, d.before a0 Z = true) (ws : List Jvm.Cond) (o0 : Addr) (q1 : Int64) (w_o0_upper : Addr) (h0 : Heap) (n0 : Nat) (Z0 : n0 ≤ h0.size) (E_w_o0_upper : Exa Z h0 w_o0_upper "java/util/OptionalInt") (F_o0_upper : Fld Z h0 o0 "com/example/weiche/weiche/net/Interval" "upper" "Ljava/util/OptionalInt;" (.ref w_o0_upper)) (F_w_o0_upper_isPresent : Fld Z h0 w_o0_upper "java/util/OptionalInt" "isPresent" "Z" (.int (0 : Int32))) :
    own_Met l Z (⟨"com/example/weiche/weiche/net/Interval", "isPast", "(J)Z"⟩ : MethodName) prog_22_method_8_code 3 (some .boolean) ws ({ frames := 1, cells := 0, slots := 0, locals := 12 } : Room) #[(.ref o0), (.long q1)] h0 (fun (v : Option Value) (h : Heap) (L : List Loc) => v = some (.int (own_f8 q1)) ∧ Fr n0 L ∧ h = h0) := by
  refine own_enter (plainFor_of_name own_pn_com_example_weiche_weiche_net_Interval) ?_
  intro p e s m below meth c s₁ P hx hby hml hrt hlk hown hnm hZ X0 e0 hP
  have N0 := Fr.nil n0
  have K0 := Keep.refl h0 []
  have hml' : c.maxLocals = 3 := hml
  refine own_cast (own_ef8 m o0 q1) ?_
  show own_End p e below P (s₁.setTop (mkF m 0 #[.val (.ref o0), .val (.long q1), .second] []))
  refine own_st (fun _ => XS.aloadN X0.here hx rfl (hb hby own_d8_0) rfl rfl) ?_
  show own_End p e below P (s₁.setTop (mkF m 1 #[.val (.ref o0), .val (.long q1), .second] [(.ref o0)]))
  obtain ⟨T1, X1, e1, st1⟩ := getF X0 hx hZ hown (host := "") (Or.inl (hw _ (List.mem_of_getElem? (i := 27) rfl))) Via.refl e0 F_o0_upper (g := (mkF m 1 #[.val (.ref o0), .val (.long q1), .second] [(.ref o0)])) rfl rfl (hb hby own_d8_1)
  refine own_st (fun _ => st1 _) ?_
  show own_End p e below P (T1.setTop (mkF m 4 #[.val (.ref o0), .val (.long q1), .second] [(.ref w_o0_upper)]))
  refine own_callV X1 hx hZ (y := (⟨"java/util/OptionalInt", "isPresent", "()Z"⟩ : MethodName)) (z := (⟨"java/util/OptionalInt", "isPresent", "()Z"⟩ : MethodName)) hown (hw _ (List.mem_of_getElem? (i := 39) rfl)) (hw _ (List.mem_of_getElem? (i := 40) rfl)) (notFace_of_selects (args := #[]) (mvT hZ (hw _ (List.mem_of_getElem? (i := 42) rfl)))) (hw _ (List.mem_of_getElem? (i := 42) rfl)) (hw _ (List.mem_of_getElem? (i := 41) rfl)) (hw _ (List.mem_of_getElem? (i := 16) rfl)) (hw _ (List.mem_of_getElem? (i := 43) rfl)) (by decide) E_w_o0_upper (own_m7 l Z a0 hw [] w_o0_upper  h0 n0 Z0 F_w_o0_upper_isPresent) 0 (by decide) (by decide) e1 (by decide) (by decide) (g := (mkF m 4 #[.val (.ref o0), .val (.long q1), .second] [(.ref w_o0_upper)])) rfl (by rw [hml']; rfl) (argsL := []) (rest := []) rfl (lenOf own_pd_Z_171 rfl) rfl (by show 2 * 0 + _ ≤ _; exact Nat.le_of_eq rfl) (hb hby own_d8_4) (fun r2 T2 L2 X2 hQ2 => ?_)
  obtain ⟨rfl, Nq2, eq2⟩ := hQ2
  have N2 := Fr.app N0 Nq2
  show own_End p e below P (T2.setTop (mkF m 7 #[.val (.ref o0), .val (.long q1), .second] [(.int (0 : Int32))]))
  refine own_st (fun _ => XS.ifYes X2.here hx rfl (pc0 := 7) (pc' := 27) rfl (hb hby own_d8_7) rfl ((if0 _ _).trans (teq (by decide : (0 : Int32) = (0 : Int32))).1) (by decide) (by decide)) ?_
  show own_End p e below P (T2.setTop (mkF m 27 #[.val (.ref o0), .val (.long q1), .second] []))
  refine own_st (fun _ => XS.iconst X2.here hx rfl (hb hby own_d8_27)) ?_
  show own_End p e below P (T2.setTop (mkF m 28 #[.val (.ref o0), .val (.long q1), .second] [(.int (0 : Int32))]))
  refine own_retN X2 hx hlk hP (t := .boolean) (by simp) hrt (hb hby own_d8_28) (by decide) (by decide) ⟨congrArg (fun z => some (Value.int z)) ?_, N2, eq2⟩
  exact (show own_f8 q1 = (0 : Int32) from rfl).symm
theorem own_d9_0 : decode prog_22_method_7_code 0 = .ok (.lload_n 1, 1) := by decide +kernel
theorem own_d9_1 : decode prog_22_method_7_code 1 = .ok (.aload_n 0, 1) := by decide +kernel
theorem own_d9_2 : decode prog_22_method_7_code 2 = .ok (.getfield 7, 3) := by decide +kernel
theorem own_d9_5 : decode prog_22_method_7_code 5 = .ok (.i2l, 1) := by decide +kernel
theorem own_d9_6 : decode prog_22_method_7_code 6 = .ok (.lcmp, 1) := by decide +kernel
theorem own_d9_7 : decode prog_22_method_7_code 7 = .ok (.ifCond .lt 15, 3) := by decide +kernel
theorem own_d9_22 : decode prog_22_method_7_code 22 = .ok (.iconst 0, 1) := by decide +kernel
theorem own_d9_23 : decode prog_22_method_7_code 23 = .ok (.ireturn, 1) := by decide +kernel
theorem own_d9_10 : decode prog_22_method_7_code 10 = .ok (.aload_n 0, 1) := by decide +kernel
theorem own_d9_11 : decode prog_22_method_7_code 11 = .ok (.lload_n 1, 1) := by decide +kernel
theorem own_d9_12 : decode prog_22_method_7_code 12 = .ok (.invokevirtual 46, 3) := by decide +kernel
theorem own_pd_J_Z_245 : parseMethodDescriptor "(J)Z" = some ⟨[.long], some .boolean⟩ := by decide +kernel
theorem own_d9_15 : decode prog_22_method_7_code 15 = .ok (.ifCond .ne 7, 3) := by decide +kernel
theorem own_d9_18 : decode prog_22_method_7_code 18 = .ok (.iconst 1, 1) := by decide +kernel
theorem own_d9_19 : decode prog_22_method_7_code 19 = .ok (.goto 4, 3) := by decide +kernel
theorem own_ef9 (m : MethodId) (o0 : Addr) (q1 : Int64) : entryFrame m #[(.ref o0), (.long q1)] 3 = mkF m 0 #[.val (.ref o0), .val (.long q1), .second] [] := by first | (simp [entryFrame, mkF, argsToLocals, Value.category]; done) | rfl
def own_f9 (q1 : Int64) (w_o0_lower : Int32) : Int32 := (if q1 < (w_o0_lower.toInt64) then (0 : Int32) else (1 : Int32))
set_option maxRecDepth 65536 in
set_option maxHeartbeats 40000000 in
theorem own_m9 (l : Launch) (Z : State) (a0 : Array Value) (hw : ∀ d ∈ tables_1, d.before a0 Z = true) (ws : List Jvm.Cond) (o0 : Addr) (q1 : Int64) (w_o0_lower : Int32) (w_o0_upper : Addr) (h0 : Heap) (n0 : Nat) (Z0 : n0 ≤ h0.size) (E_o0 : Exa Z h0 o0 "com/example/weiche/weiche/net/Interval") (E_w_o0_upper : Exa Z h0 w_o0_upper "java/util/OptionalInt") (F_o0_lower : Fld Z h0 o0 "com/example/weiche/weiche/net/Interval" "lower" "I" (.int w_o0_lower)) (F_o0_upper : Fld Z h0 o0 "com/example/weiche/weiche/net/Interval" "upper" "Ljava/util/OptionalInt;" (.ref w_o0_upper)) (F_w_o0_upper_isPresent : Fld Z h0 w_o0_upper "java/util/OptionalInt" "isPresent" "Z" (.int (0 : Int32))) :
    own_Met l Z (⟨"com/example/weiche/weiche/net/Interval", "contains", "(J)Z"⟩ : MethodName) prog_22_method_7_code 3 (some .boolean) ws ({ frames := 2, cells := 0, slots := 0, locals := 26 } : Room) #[(.ref o0), (.long q1)] h0 (fun (v : Option Value) (h : Heap) (L : List Loc) => v = some (.int (own_f9 q1 w_o0_lower)) ∧ Fr n0 L ∧ h = h0) := by
  refine own_enter (plainFor_of_name own_pn_com_example_weiche_weiche_net_Interval) ?_
  intro p e s m below meth c s₁ P hx hby hml hrt hlk hown hnm hZ X0 e0 hP
  have N0 := Fr.nil n0
  have K0 := Keep.refl h0 []
  have hml' : c.maxLocals = 3 := hml
  refine own_cast (own_ef9 m o0 q1) ?_
  show own_End p e below P (s₁.setTop (mkF m 0 #[.val (.ref o0), .val (.long q1), .second] []))
  refine own_st (fun _ => XS.lloadN X0.here hx rfl (hb hby own_d9_0) rfl) ?_
  show own_End p e below P (s₁.setTop (mkF m 1 #[.val (.ref o0), .val (.long q1), .second] [(.long q1)]))
  refine own_st (fun _ => XS.aloadN X0.here hx rfl (hb hby own_d9_1) rfl rfl) ?_
  show own_End p e below P (s₁.setTop (mkF m 2 #[.val (.ref o0), .val (.long q1), .second] [(.ref o0), (.long q1)]))
  obtain ⟨T1, X1, e1, st1⟩ := getF X0 hx hZ hown (host := "") (Or.inl (hw _ (List.mem_of_getElem? (i := 25) rfl))) Via.refl e0 F_o0_lower (g := (mkF m 2 #[.val (.ref o0), .val (.long q1), .second] [(.ref o0), (.long q1)])) rfl rfl (hb hby own_d9_2)
  refine own_st (fun _ => st1 _) ?_
  show own_End p e below P (T1.setTop (mkF m 5 #[.val (.ref o0), .val (.long q1), .second] [(.int w_o0_lower), (.long q1)]))
  refine own_st (fun _ => XS.i2l X1.here hx rfl (hb hby own_d9_5) rfl) ?_
  show own_End p e below P (T1.setTop (mkF m 6 #[.val (.ref o0), .val (.long q1), .second] [(.long (w_o0_lower.toInt64)), (.long q1)]))
  refine own_st (fun _ => XS.lcmp X1.here hx rfl (hb hby own_d9_6) rfl) ?_
  show own_End p e below P (T1.setTop (mkF m 7 #[.val (.ref o0), .val (.long q1), .second] [(.int (lcmpW q1 (w_o0_lower.toInt64)))]))
  by_cases hc2 : q1 < (w_o0_lower.toInt64)
  · refine own_st (fun _ => XS.ifYes X1.here hx rfl (pc0 := 7) (pc' := 22) rfl (hb hby own_d9_7) rfl ((if0 _ _).trans (tlt (own_lt.mpr hc2)).1) (by decide) (by decide)) ?_
    show own_End p e below P (T1.setTop (mkF m 22 #[.val (.ref o0), .val (.long q1), .second] []))
    refine own_st (fun _ => XS.iconst X1.here hx rfl (hb hby own_d9_22)) ?_
    show own_End p e below P (T1.setTop (mkF m 23 #[.val (.ref o0), .val (.long q1), .second] [(.int (0 : Int32))]))
    refine own_retN X1 hx hlk hP (t := .boolean) (by simp) hrt (hb hby own_d9_23) (by decide) (by decide) ⟨congrArg (fun z => some (Value.int z)) ?_, N0, e1⟩
    exact (show own_f9 q1 w_o0_lower = (0 : Int32) from (if_pos hc2).trans (rfl)).symm
  · refine own_st (fun _ => XS.ifNo X1.here hx rfl (hb hby own_d9_7) rfl ((if0 _ _).trans (flt (mt own_lt.mp hc2)).1)) ?_
    show own_End p e below P (T1.setTop (mkF m 10 #[.val (.ref o0), .val (.long q1), .second] []))
    refine own_st (fun _ => XS.aloadN X1.here hx rfl (hb hby own_d9_10) rfl rfl) ?_
    show own_End p e below P (T1.setTop (mkF m 11 #[.val (.ref o0), .val (.long q1), .second] [(.ref o0)]))
    refine own_st (fun _ => XS.lloadN X1.here hx rfl (hb hby own_d9_11) rfl) ?_
    show own_End p e below P (T1.setTop (mkF m 12 #[.val (.ref o0), .val (.long q1), .second] [(.long q1), (.ref o0)]))
    refine own_callV X1 hx hZ (y := (⟨"com/example/weiche/weiche/net/Interval", "isPast", "(J)Z"⟩ : MethodName)) (z := (⟨"com/example/weiche/weiche/net/Interval", "isPast", "(J)Z"⟩ : MethodName)) hown (hw _ (List.mem_of_getElem? (i := 52) rfl)) (hw _ (List.mem_of_getElem? (i := 35) rfl)) (notFace_of_selects (args := #[]) (mvT hZ (hw _ (List.mem_of_getElem? (i := 37) rfl)))) (hw _ (List.mem_of_getElem? (i := 37) rfl)) (hw _ (List.mem_of_getElem? (i := 36) rfl)) (hw _ (List.mem_of_getElem? (i := 7) rfl)) (hw _ (List.mem_of_getElem? (i := 38) rfl)) (by decide) E_o0 (own_m8 l Z a0 hw [] o0 q1 w_o0_upper h0 n0 Z0 E_w_o0_upper F_o0_upper F_w_o0_upper_isPresent) 0 (by decide) (by decide) e1 (by decide) (by decide) (g := (mkF m 12 #[.val (.ref o0), .val (.long q1), .second] [(.long q1), (.ref o0)])) rfl (by rw [hml']; rfl) (argsL := [(.long q1)]) (rest := []) rfl (lenOf own_pd_J_Z_245 rfl) rfl (by show 2 * 0 + _ ≤ _; exact Nat.le_of_eq rfl) (hb hby own_d9_12) (fun r3 T3 L3 X3 hQ3 => ?_)
    obtain ⟨rfl, Nq3, eq3⟩ := hQ3
    have N3 := Fr.app N0 Nq3
    show own_End p e below P (T3.setTop (mkF m 15 #[.val (.ref o0), .val (.long q1), .second] [(.int (0 : Int32))]))
    refine own_st (fun _ => XS.ifNo X3.here hx rfl (hb hby own_d9_15) rfl ((if0 _ _).trans (teq (by decide : (0 : Int32) = (0 : Int32))).2)) ?_
    show own_End p e below P (T3.setTop (mkF m 18 #[.val (.ref o0), .val (.long q1), .second] []))
    refine own_st (fun _ => XS.iconst X3.here hx rfl (hb hby own_d9_18)) ?_
    show own_End p e below P (T3.setTop (mkF m 19 #[.val (.ref o0), .val (.long q1), .second] [(.int (1 : Int32))]))
    refine own_st (fun _ => XS.goto X3.here hx rfl (pc0 := 19) (pc' := 23) rfl (hb hby own_d9_19) (by decide) (by decide)) ?_
    show own_End p e below P (T3.setTop (mkF m 23 #[.val (.ref o0), .val (.long q1), .second] [(.int (1 : Int32))]))
    refine own_retN X3 hx hlk hP (t := .boolean) (by simp) hrt (hb hby own_d9_23) (by decide) (by decide) ⟨congrArg (fun z => some (Value.int z)) ?_, N3, eq3⟩
    exact (show own_f9 q1 w_o0_lower = (1 : Int32) from (if_neg hc2).trans (rfl)).symm
theorem own_max (a b : Int32) : a.toInt ≤ (own_f1 a b).toInt := by
  show _ ≤ (if a < b then b else a).toInt
  split
  · rename_i h; rw [Int32.lt_iff_toInt_lt] at h; omega
  · omega
theorem own_cont (q : Int64) (lo : Int32) : own_f9 q lo = if q.toInt < lo.toInt then 0 else 1 := by
  show (if q < lo.toInt64 then (0 : Int32) else (if own_f8 q = 0 then 1 else 0)) = _
  have e : q < lo.toInt64 ↔ q.toInt < lo.toInt := by rw [Int64.lt_iff_toInt_lt, Jvm.Kit.i64_of_i32]
  have e8 : own_f8 q = 0 := rfl
  by_cases h : q.toInt < lo.toInt
  · rw [if_pos (e.mpr h), if_pos h]
  · rw [if_neg (mt e.mp h), if_neg h, if_pos e8]
theorem own_c1 {q : Int64} {lo v : Int32} (e : v = if q < lo.toInt64 then (0 : Int32) else (1 : Int32)) : own_f9 q lo = v := by
  subst e
  rw [own_cont]
  have e1 : q < lo.toInt64 ↔ q.toInt < lo.toInt := by rw [Int64.lt_iff_toInt_lt, Jvm.Kit.i64_of_i32]
  simp only [e1]
theorem own_b32 (a : Int32) : a.toInt64.toInt = a.toInt ∧ (a.toInt64 - (1 : Int64)).toInt = a.toInt - 1 ∧ a.toInt < 2147483648 ∧ (9223372036854775807 : Int64).toInt = 9223372036854775807 := by
  have h1 := Int32.toInt_lt a
  have h2 := Int32.le_toInt a
  have e := Jvm.Kit.i64_of_i32 a
  have o : (1 : Int64).toInt = 1 := by decide
  refine ⟨e, ?_, by omega, by decide⟩
  rw [Jvm.Kit.i64_sub (by rw [e, o]; omega) (by rw [e, o]; omega), e, o]
theorem own_pd_II_I_300 : parseMethodDescriptor "(II)I" = some ⟨[.int, .int], some .int⟩ := by decide +kernel
theorem own_pd_I_Lcom_example_weiche_weiche_net_Interval_25 : parseMethodDescriptor "(I)Lcom/example/weiche/weiche/net/Interval;" = some ⟨[.int], some (.object "com/example/weiche/weiche/net/Interval")⟩ := by decide +kernel
theorem own_pd_I_154 : parseMethodDescriptor "()I" = some ⟨[], some .int⟩ := by decide +kernel
theorem own_ef0 (m : MethodId) (p0 : Int32) (q1 : Int64) : entryFrame m #[(.int p0), (.long q1)] maxLocals = mkF m 0 #[.val (.int p0), .val (.long q1), .second, .unset, .unset] [] := by first | (simp [entryFrame, mkF, argsToLocals, Value.category, maxLocals]; done) | rfl
theorem own_pn_com_example_weiche_weiche_net_IntervalUnboundedPinLaw : plainName "com/example/weiche/weiche/net/IntervalUnboundedPinLaw" = true := by first | (simp [plainName, overriddenIn]; done) | decide +kernel
set_option maxRecDepth 65536 in
set_option maxHeartbeats 40000000 in
theorem own_m0 (l : Launch) (Z : State) (a0 : Array Value) (hw : ∀ d ∈ tables_1, d.before a0 Z = true) (ws : List Jvm.Cond) (p0 : Int32) (q1 : Int64) (s_OptionalInt_EMPTY : Addr) (h0 : Heap) (n0 : Nat) (Z0 : n0 ≤ h0.size) (E_s_OptionalInt_EMPTY : Exa Z h0 s_OptionalInt_EMPTY "java/util/OptionalInt") (F_s_OptionalInt_EMPTY_isPresent : Fld Z h0 s_OptionalInt_EMPTY "java/util/OptionalInt" "isPresent" "Z" (.int (0 : Int32))) (S_OptionalInt_EMPTY : Sta Z h0 "java/util/OptionalInt" "EMPTY" "Ljava/util/OptionalInt;" (.ref s_OptionalInt_EMPTY)) :
    own_Met l Z x code maxLocals ret ws room_1 #[(.int p0), (.long q1)] h0 (fun (v : Option Value) (h : Heap) (L : List Loc) => v = some (.int 1) ∧ Fr n0 L) := by
  refine own_enter (plainFor_of_name own_pn_com_example_weiche_weiche_net_IntervalUnboundedPinLaw) ?_
  intro p e s m below meth c s₁ P hx hby hml hrt hlk hown hnm hZ X0 e0 hP
  have N0 := Fr.nil n0
  have K0 := Keep.refl h0 []
  have hml' : c.maxLocals = 5 := hml
  refine own_cast (own_ef0 m p0 q1) ?_
  have hlo : (1 : Int32).toInt ≤ (own_f1 (1 : Int32) (p0 &&& (2147483647 : Int32))).toInt := own_max _ _
  have hone : (1 : Int32).toInt = 1 := by decide
  show own_End p e below P (s₁.setTop (mkF m 0 #[.val (.int p0), .val (.long q1), .second, .unset, .unset] []))
  refine own_st (fun _ => XS.iconst X0.here hx rfl (hb hby at_0)) ?_
  show own_End p e below P (s₁.setTop (mkF m 1 #[.val (.int p0), .val (.long q1), .second, .unset, .unset] [(.int (1 : Int32))]))
  refine own_st (fun _ => XS.iloadN X0.here hx rfl (hb hby at_1) rfl) ?_
  show own_End p e below P (s₁.setTop (mkF m 2 #[.val (.int p0), .val (.long q1), .second, .unset, .unset] [(.int p0), (.int (1 : Int32))]))
  refine own_st (fun _ => X0.ldcInt hx hown (mvT hZ (hw _ (List.mem_of_getElem? (i := 0) rfl))) (g := (mkF m 2 #[.val (.int p0), .val (.long q1), .second, .unset, .unset] [(.int p0), (.int (1 : Int32))])) rfl (hb hby at_2) _) ?_
  show own_End p e below P (s₁.setTop (mkF m 4 #[.val (.int p0), .val (.long q1), .second, .unset, .unset] [(.int (2147483647 : Int32)), (.int p0), (.int (1 : Int32))]))
  refine own_st (fun _ => XS.iand X0.here hx rfl (hb hby at_4) rfl) ?_
  show own_End p e below P (s₁.setTop (mkF m 5 #[.val (.int p0), .val (.long q1), .second, .unset, .unset] [(.int (p0 &&& (2147483647 : Int32))), (.int (1 : Int32))]))
  refine own_callS X0 hx hZ (y := (⟨"java/lang/Math", "max", "(II)I"⟩ : MethodName)) hown (hw _ (List.mem_of_getElem? (i := 1) rfl)) (hw _ (List.mem_of_getElem? (i := 2) rfl)) (hw _ (List.mem_of_getElem? (i := 3) rfl)) (hw _ (List.mem_of_getElem? (i := 4) rfl)) (by decide) (own_m1 l Z a0 hw [] (1 : Int32) (p0 &&& (2147483647 : Int32))  h0 n0 Z0 ) 0 (by decide) (by decide) e0 (by decide) (by decide) (g := (mkF m 5 #[.val (.int p0), .val (.long q1), .second, .unset, .unset] [(.int (p0 &&& (2147483647 : Int32))), (.int (1 : Int32))])) rfl (by rw [hml']; rfl) (argsL := [(.int (1 : Int32)), (.int (p0 &&& (2147483647 : Int32)))]) (rest := []) rfl (lenOf own_pd_II_I_300 rfl) rfl (by show 2 * 0 + _ ≤ _; exact Nat.le_of_eq rfl) (hb hby at_5) (fun r1 T1 L1 X1 hQ1 => ?_)
  obtain ⟨rfl, Nq1, eq1⟩ := hQ1
  have N1 := Fr.app N0 Nq1
  show own_End p e below P (T1.setTop (mkF m 8 #[.val (.int p0), .val (.long q1), .second, .unset, .unset] [(.int (own_f1 (1 : Int32) (p0 &&& (2147483647 : Int32))))]))
  generalize hlo0 : own_f1 (1 : Int32) (p0 &&& (2147483647 : Int32)) = lo at hlo ⊢
  show own_End p e below P (T1.setTop (mkF m 8 #[.val (.int p0), .val (.long q1), .second, .unset, .unset] [(.int lo)]))
  refine own_st (fun _ => XS.istoreN X1.here hx rfl (hb hby at_8) rfl (l' := #[.val (.int p0), .val (.long q1), .second, .val (.int lo), .unset]) rfl) ?_
  show own_End p e below P (T1.setTop (mkF m 9 #[.val (.int p0), .val (.long q1), .second, .val (.int lo), .unset] []))
  refine own_st (fun _ => XS.iloadN X1.here hx rfl (hb hby at_9) rfl) ?_
  show own_End p e below P (T1.setTop (mkF m 10 #[.val (.int p0), .val (.long q1), .second, .val (.int lo), .unset] [(.int lo)]))
  refine own_callS X1 hx hZ (y := (⟨"com/example/weiche/weiche/net/Interval", "unbounded", "(I)Lcom/example/weiche/weiche/net/Interval;"⟩ : MethodName)) hown (hw _ (List.mem_of_getElem? (i := 5) rfl)) (hw _ (List.mem_of_getElem? (i := 6) rfl)) (hw _ (List.mem_of_getElem? (i := 7) rfl)) (hw _ (List.mem_of_getElem? (i := 8) rfl)) (by decide) (own_m5 l Z a0 hw [] lo s_OptionalInt_EMPTY h0 n0 Z0 S_OptionalInt_EMPTY (by rw [Int32.lt_iff_toInt_lt]; omega)) 0 (by decide) (by decide) eq1 (by decide) (by decide) (g := (mkF m 10 #[.val (.int p0), .val (.long q1), .second, .val (.int lo), .unset] [(.int lo)])) rfl (by rw [hml']; rfl) (argsL := [(.int lo)]) (rest := []) rfl (lenOf own_pd_I_Lcom_example_weiche_weiche_net_Interval_25 rfl) rfl (by show 2 * 0 + _ ≤ _; exact Nat.le_of_eq rfl) (hb hby at_10) (fun r2 T2 L2 X2 hQ2 => ?_)
  obtain ⟨b2_2, rfl, Nq2, Kq2, szq_b2_2, low_b2_2, f0_2, f1_2, f2_2⟩ := hQ2
  have N2 := Fr.app N1 Nq2
  have ne3 : s_OptionalInt_EMPTY ≠ b2_2 := Nat.ne_of_lt (Nat.lt_of_lt_of_le E_s_OptionalInt_EMPTY.lt szq_b2_2)
  have sz_b2_2 := Nat.le_trans K0.1 szq_b2_2
  have K2 := Keep.trans K0 Kq2 all0
  have Z2 := Nat.le_trans Z0 Kq2.1
  show own_End p e below P (T2.setTop (mkF m 13 #[.val (.int p0), .val (.long q1), .second, .val (.int lo), .unset] [(.ref b2_2)]))
  refine own_st (fun _ => XS.astore X2.here hx rfl (hb hby at_13) rfl rfl (l' := #[.val (.int p0), .val (.long q1), .second, .val (.int lo), .val (.ref b2_2)]) rfl) ?_
  show own_End p e below P (T2.setTop (mkF m 15 #[.val (.int p0), .val (.long q1), .second, .val (.int lo), .val (.ref b2_2)] []))
  refine own_st (fun _ => XS.aload X2.here hx rfl (hb hby at_15) rfl rfl) ?_
  show own_End p e below P (T2.setTop (mkF m 17 #[.val (.int p0), .val (.long q1), .second, .val (.int lo), .val (.ref b2_2)] [(.ref b2_2)]))
  refine own_callV X2 hx hZ (y := (⟨"com/example/weiche/weiche/net/Interval", "lower", "()I"⟩ : MethodName)) (z := (⟨"com/example/weiche/weiche/net/Interval", "lower", "()I"⟩ : MethodName)) hown (hw _ (List.mem_of_getElem? (i := 29) rfl)) (hw _ (List.mem_of_getElem? (i := 30) rfl)) (notFace_of_selects (args := #[]) (mvT hZ (hw _ (List.mem_of_getElem? (i := 32) rfl)))) (hw _ (List.mem_of_getElem? (i := 32) rfl)) (hw _ (List.mem_of_getElem? (i := 31) rfl)) (hw _ (List.mem_of_getElem? (i := 7) rfl)) (hw _ (List.mem_of_getElem? (i := 33) rfl)) (by decide) f0_2 (own_m6 l Z a0 hw [] b2_2 lo T2.heap n0 Z2 f1_2) 0 (by decide) (by decide) rfl (by decide) (by decide) (g := (mkF m 17 #[.val (.int p0), .val (.long q1), .second, .val (.int lo), .val (.ref b2_2)] [(.ref b2_2)])) rfl (by rw [hml']; rfl) (argsL := []) (rest := []) rfl (lenOf own_pd_I_154 rfl) rfl (by show 2 * 0 + _ ≤ _; exact Nat.le_of_eq rfl) (hb hby at_17) (fun r4 T4 L4 X4 hQ4 => ?_)
  obtain ⟨rfl, Nq4, eq4⟩ := hQ4
  have N4 := Fr.app N2 Nq4
  show own_End p e below P (T4.setTop (mkF m 20 #[.val (.int p0), .val (.long q1), .second, .val (.int lo), .val (.ref b2_2)] [(.int (own_f6 lo))]))
  refine own_st (fun _ => XS.iloadN X4.here hx rfl (hb hby at_20) rfl) ?_
  show own_End p e below P (T4.setTop (mkF m 21 #[.val (.int p0), .val (.long q1), .second, .val (.int lo), .val (.ref b2_2)] [(.int lo), (.int (own_f6 lo))]))
  have hc5 : (own_f6 lo) = lo := by rfl
  refine own_st (fun _ => XS.icmpYes X4.here hx rfl (pc0 := 21) (pc' := 26) rfl (hb hby at_21) rfl (teq hc5).1 (by decide) (by decide)) ?_
  show own_End p e below P (T4.setTop (mkF m 26 #[.val (.int p0), .val (.long q1), .second, .val (.int lo), .val (.ref b2_2)] []))
  refine own_st (fun _ => XS.aload X4.here hx rfl (hb hby at_26) rfl rfl) ?_
  show own_End p e below P (T4.setTop (mkF m 28 #[.val (.int p0), .val (.long q1), .second, .val (.int lo), .val (.ref b2_2)] [(.ref b2_2)]))
  refine own_st (fun _ => XS.lloadN X4.here hx rfl (hb hby at_28) rfl) ?_
  show own_End p e below P (T4.setTop (mkF m 29 #[.val (.int p0), .val (.long q1), .second, .val (.int lo), .val (.ref b2_2)] [(.long q1), (.ref b2_2)]))
  have G7 := (E_s_OptionalInt_EMPTY.keep Kq2)
  have G8 := (F_s_OptionalInt_EMPTY_isPresent.keep Kq2 nin0)
  refine own_callV X4 hx hZ (y := (⟨"com/example/weiche/weiche/net/Interval", "isPast", "(J)Z"⟩ : MethodName)) (z := (⟨"com/example/weiche/weiche/net/Interval", "isPast", "(J)Z"⟩ : MethodName)) hown (hw _ (List.mem_of_getElem? (i := 34) rfl)) (hw _ (List.mem_of_getElem? (i := 35) rfl)) (notFace_of_selects (args := #[]) (mvT hZ (hw _ (List.mem_of_getElem? (i := 37) rfl)))) (hw _ (List.mem_of_getElem? (i := 37) rfl)) (hw _ (List.mem_of_getElem? (i := 36) rfl)) (hw _ (List.mem_of_getElem? (i := 7) rfl)) (hw _ (List.mem_of_getElem? (i := 38) rfl)) (by decide) f0_2 (own_m8 l Z a0 hw [] b2_2 q1 s_OptionalInt_EMPTY T2.heap n0 Z2 G7 f2_2 G8) 0 (by decide) (by decide) eq4 (by decide) (by decide) (g := (mkF m 29 #[.val (.int p0), .val (.long q1), .second, .val (.int lo), .val (.ref b2_2)] [(.long q1), (.ref b2_2)])) rfl (by rw [hml']; rfl) (argsL := [(.long q1)]) (rest := []) rfl (lenOf own_pd_J_Z_245 rfl) rfl (by show 2 * 0 + _ ≤ _; exact Nat.le_of_eq rfl) (hb hby at_29) (fun r6 T6 L6 X6 hQ6 => ?_)
  obtain ⟨rfl, Nq6, eq6⟩ := hQ6
  have N6 := Fr.app N4 Nq6
  show own_End p e below P (T6.setTop (mkF m 32 #[.val (.int p0), .val (.long q1), .second, .val (.int lo), .val (.ref b2_2)] [(.int (0 : Int32))]))
  refine own_st (fun _ => XS.ifYes X6.here hx rfl (pc0 := 32) (pc' := 37) rfl (hb hby at_32) rfl ((if0 _ _).trans (teq (by decide : (0 : Int32) = (0 : Int32))).1) (by decide) (by decide)) ?_
  show own_End p e below P (T6.setTop (mkF m 37 #[.val (.int p0), .val (.long q1), .second, .val (.int lo), .val (.ref b2_2)] []))
  refine own_st (fun _ => XS.aload X6.here hx rfl (hb hby at_37) rfl rfl) ?_
  show own_End p e below P (T6.setTop (mkF m 39 #[.val (.int p0), .val (.long q1), .second, .val (.int lo), .val (.ref b2_2)] [(.ref b2_2)]))
  refine own_st (fun _ => X6.ldc2Long hx hown (mvT hZ (hw _ (List.mem_of_getElem? (i := 46) rfl))) (g := (mkF m 39 #[.val (.int p0), .val (.long q1), .second, .val (.int lo), .val (.ref b2_2)] [(.ref b2_2)])) rfl (hb hby at_39) _) ?_
  show own_End p e below P (T6.setTop (mkF m 42 #[.val (.int p0), .val (.long q1), .second, .val (.int lo), .val (.ref b2_2)] [(.long (9223372036854775807 : Int64)), (.ref b2_2)]))
  refine own_callV X6 hx hZ (y := (⟨"com/example/weiche/weiche/net/Interval", "isPast", "(J)Z"⟩ : MethodName)) (z := (⟨"com/example/weiche/weiche/net/Interval", "isPast", "(J)Z"⟩ : MethodName)) hown (hw _ (List.mem_of_getElem? (i := 34) rfl)) (hw _ (List.mem_of_getElem? (i := 35) rfl)) (notFace_of_selects (args := #[]) (mvT hZ (hw _ (List.mem_of_getElem? (i := 37) rfl)))) (hw _ (List.mem_of_getElem? (i := 37) rfl)) (hw _ (List.mem_of_getElem? (i := 36) rfl)) (hw _ (List.mem_of_getElem? (i := 7) rfl)) (hw _ (List.mem_of_getElem? (i := 38) rfl)) (by decide) f0_2 (own_m8 l Z a0 hw [] b2_2 (9223372036854775807 : Int64) s_OptionalInt_EMPTY T2.heap n0 Z2 G7 f2_2 G8) 0 (by decide) (by decide) eq6 (by decide) (by decide) (g := (mkF m 42 #[.val (.int p0), .val (.long q1), .second, .val (.int lo), .val (.ref b2_2)] [(.long (9223372036854775807 : Int64)), (.ref b2_2)])) rfl (by rw [hml']; rfl) (argsL := [(.long (9223372036854775807 : Int64))]) (rest := []) rfl (lenOf own_pd_J_Z_245 rfl) rfl (by show 2 * 0 + _ ≤ _; exact Nat.le_of_eq rfl) (hb hby at_42) (fun r9 T9 L9 X9 hQ9 => ?_)
  obtain ⟨rfl, Nq9, eq9⟩ := hQ9
  have N9 := Fr.app N6 Nq9
  show own_End p e below P (T9.setTop (mkF m 45 #[.val (.int p0), .val (.long q1), .second, .val (.int lo), .val (.ref b2_2)] [(.int (0 : Int32))]))
  refine own_st (fun _ => XS.ifYes X9.here hx rfl (pc0 := 45) (pc' := 50) rfl (hb hby at_45) rfl ((if0 _ _).trans (teq (by decide : (0 : Int32) = (0 : Int32))).1) (by decide) (by decide)) ?_
  show own_End p e below P (T9.setTop (mkF m 50 #[.val (.int p0), .val (.long q1), .second, .val (.int lo), .val (.ref b2_2)] []))
  refine own_st (fun _ => XS.aload X9.here hx rfl (hb hby at_50) rfl rfl) ?_
  show own_End p e below P (T9.setTop (mkF m 52 #[.val (.int p0), .val (.long q1), .second, .val (.int lo), .val (.ref b2_2)] [(.ref b2_2)]))
  refine own_st (fun _ => XS.lloadN X9.here hx rfl (hb hby at_52) rfl) ?_
  show own_End p e below P (T9.setTop (mkF m 53 #[.val (.int p0), .val (.long q1), .second, .val (.int lo), .val (.ref b2_2)] [(.long q1), (.ref b2_2)]))
  refine own_callV X9 hx hZ (y := (⟨"com/example/weiche/weiche/net/Interval", "contains", "(J)Z"⟩ : MethodName)) (z := (⟨"com/example/weiche/weiche/net/Interval", "contains", "(J)Z"⟩ : MethodName)) hown (hw _ (List.mem_of_getElem? (i := 47) rfl)) (hw _ (List.mem_of_getElem? (i := 48) rfl)) (notFace_of_selects (args := #[]) (mvT hZ (hw _ (List.mem_of_getElem? (i := 50) rfl)))) (hw _ (List.mem_of_getElem? (i := 50) rfl)) (hw _ (List.mem_of_getElem? (i := 49) rfl)) (hw _ (List.mem_of_getElem? (i := 7) rfl)) (hw _ (List.mem_of_getElem? (i := 51) rfl)) (by decide) f0_2 (own_m9 l Z a0 hw [] b2_2 q1 lo s_OptionalInt_EMPTY T2.heap n0 Z2 f0_2 G7 f1_2 f2_2 G8) 0 (by decide) (by decide) eq9 (by decide) (by decide) (g := (mkF m 53 #[.val (.int p0), .val (.long q1), .second, .val (.int lo), .val (.ref b2_2)] [(.long q1), (.ref b2_2)])) rfl (by rw [hml']; rfl) (argsL := [(.long q1)]) (rest := []) rfl (lenOf own_pd_J_Z_245 rfl) rfl (by show 2 * 0 + _ ≤ _; exact Nat.le_of_eq rfl) (hb hby at_53) (fun r10 T10 L10 X10 hQ10 => ?_)
  obtain ⟨rfl, Nq10, eq10⟩ := hQ10
  have N10 := Fr.app N9 Nq10
  show own_End p e below P (T10.setTop (mkF m 56 #[.val (.int p0), .val (.long q1), .second, .val (.int lo), .val (.ref b2_2)] [(.int (own_f9 q1 lo))]))
  refine own_st (fun _ => XS.lloadN X10.here hx rfl (hb hby at_56) rfl) ?_
  show own_End p e below P (T10.setTop (mkF m 57 #[.val (.int p0), .val (.long q1), .second, .val (.int lo), .val (.ref b2_2)] [(.long q1), (.int (own_f9 q1 lo))]))
  refine own_st (fun _ => XS.iloadN X10.here hx rfl (hb hby at_57) rfl) ?_
  show own_End p e below P (T10.setTop (mkF m 58 #[.val (.int p0), .val (.long q1), .second, .val (.int lo), .val (.ref b2_2)] [(.int lo), (.long q1), (.int (own_f9 q1 lo))]))
  refine own_st (fun _ => XS.i2l X10.here hx rfl (hb hby at_58) rfl) ?_
  show own_End p e below P (T10.setTop (mkF m 59 #[.val (.int p0), .val (.long q1), .second, .val (.int lo), .val (.ref b2_2)] [(.long (lo.toInt64)), (.long q1), (.int (own_f9 q1 lo))]))
  refine own_st (fun _ => XS.lcmp X10.here hx rfl (hb hby at_59) rfl) ?_
  show own_End p e below P (T10.setTop (mkF m 60 #[.val (.int p0), .val (.long q1), .second, .val (.int lo), .val (.ref b2_2)] [(.int (lcmpW q1 (lo.toInt64))), (.int (own_f9 q1 lo))]))
  have J13 : ∀ v12 : Int32, v12 = (if q1 < (lo.toInt64) then (0 : Int32) else (1 : Int32)) → own_End p e below P (T10.setTop (mkF m 68 #[.val (.int p0), .val (.long q1), .second, .val (.int lo), .val (.ref b2_2)] [(.int v12), (.int (own_f9 q1 lo))])) := by
    intro v12 e_v12
    have hc14 : (own_f9 q1 lo) = v12 := by exact own_c1 e_v12
    refine own_st (fun _ => XS.icmpYes X10.here hx rfl (pc0 := 68) (pc' := 73) rfl (hb hby at_68) rfl (teq hc14).1 (by decide) (by decide)) ?_
    show own_End p e below P (T10.setTop (mkF m 73 #[.val (.int p0), .val (.long q1), .second, .val (.int lo), .val (.ref b2_2)] []))
    refine own_st (fun _ => XS.aload X10.here hx rfl (hb hby at_73) rfl rfl) ?_
    show own_End p e below P (T10.setTop (mkF m 75 #[.val (.int p0), .val (.long q1), .second, .val (.int lo), .val (.ref b2_2)] [(.ref b2_2)]))
    refine own_st (fun _ => XS.iloadN X10.here hx rfl (hb hby at_75) rfl) ?_
    show own_End p e below P (T10.setTop (mkF m 76 #[.val (.int p0), .val (.long q1), .second, .val (.int lo), .val (.ref b2_2)] [(.int lo), (.ref b2_2)]))
    refine own_st (fun _ => XS.i2l X10.here hx rfl (hb hby at_76) rfl) ?_
    show own_End p e below P (T10.setTop (mkF m 77 #[.val (.int p0), .val (.long q1), .second, .val (.int lo), .val (.ref b2_2)] [(.long (lo.toInt64)), (.ref b2_2)]))
    refine own_callV X10 hx hZ (y := (⟨"com/example/weiche/weiche/net/Interval", "contains", "(J)Z"⟩ : MethodName)) (z := (⟨"com/example/weiche/weiche/net/Interval", "contains", "(J)Z"⟩ : MethodName)) hown (hw _ (List.mem_of_getElem? (i := 47) rfl)) (hw _ (List.mem_of_getElem? (i := 48) rfl)) (notFace_of_selects (args := #[]) (mvT hZ (hw _ (List.mem_of_getElem? (i := 50) rfl)))) (hw _ (List.mem_of_getElem? (i := 50) rfl)) (hw _ (List.mem_of_getElem? (i := 49) rfl)) (hw _ (List.mem_of_getElem? (i := 7) rfl)) (hw _ (List.mem_of_getElem? (i := 51) rfl)) (by decide) f0_2 (own_m9 l Z a0 hw [] b2_2 (lo.toInt64) lo s_OptionalInt_EMPTY T2.heap n0 Z2 f0_2 G7 f1_2 f2_2 G8) 0 (by decide) (by decide) eq10 (by decide) (by decide) (g := (mkF m 77 #[.val (.int p0), .val (.long q1), .second, .val (.int lo), .val (.ref b2_2)] [(.long (lo.toInt64)), (.ref b2_2)])) rfl (by rw [hml']; rfl) (argsL := [(.long (lo.toInt64))]) (rest := []) rfl (lenOf own_pd_J_Z_245 rfl) rfl (by show 2 * 0 + _ ≤ _; exact Nat.le_of_eq rfl) (hb hby at_77) (fun r15 T15 L15 X15 hQ15 => ?_)
    obtain ⟨rfl, Nq15, eq15⟩ := hQ15
    have N15 := Fr.app N10 Nq15
    show own_End p e below P (T15.setTop (mkF m 80 #[.val (.int p0), .val (.long q1), .second, .val (.int lo), .val (.ref b2_2)] [(.int (own_f9 (lo.toInt64) lo))]))
    have hc16 : ¬ ((own_f9 (lo.toInt64) lo) = (0 : Int32)) := by rw [own_cont]; have h1 := own_b32 lo; first | (rw [if_pos (by omega)]; try decide) | (rw [if_neg (by omega)]; try decide)
    refine own_st (fun _ => XS.ifYes X15.here hx rfl (pc0 := 80) (pc' := 85) rfl (hb hby at_80) rfl ((if0 _ _).trans (feq hc16).2) (by decide) (by decide)) ?_
    show own_End p e below P (T15.setTop (mkF m 85 #[.val (.int p0), .val (.long q1), .second, .val (.int lo), .val (.ref b2_2)] []))
    refine own_st (fun _ => XS.aload X15.here hx rfl (hb hby at_85) rfl rfl) ?_
    show own_End p e below P (T15.setTop (mkF m 87 #[.val (.int p0), .val (.long q1), .second, .val (.int lo), .val (.ref b2_2)] [(.ref b2_2)]))
    refine own_st (fun _ => XS.iloadN X15.here hx rfl (hb hby at_87) rfl) ?_
    show own_End p e below P (T15.setTop (mkF m 88 #[.val (.int p0), .val (.long q1), .second, .val (.int lo), .val (.ref b2_2)] [(.int lo), (.ref b2_2)]))
    refine own_st (fun _ => XS.i2l X15.here hx rfl (hb hby at_88) rfl) ?_
    show own_End p e below P (T15.setTop (mkF m 89 #[.val (.int p0), .val (.long q1), .second, .val (.int lo), .val (.ref b2_2)] [(.long (lo.toInt64)), (.ref b2_2)]))
    refine own_st (fun _ => XS.lconst X15.here hx rfl (hb hby at_89)) ?_
    show own_End p e below P (T15.setTop (mkF m 90 #[.val (.int p0), .val (.long q1), .second, .val (.int lo), .val (.ref b2_2)] [(.long (1 : Int64)), (.long (lo.toInt64)), (.ref b2_2)]))
    refine own_st (fun _ => XS.lsub X15.here hx rfl (hb hby at_90) rfl) ?_
    show own_End p e below P (T15.setTop (mkF m 91 #[.val (.int p0), .val (.long q1), .second, .val (.int lo), .val (.ref b2_2)] [(.long ((lo.toInt64) - (1 : Int64))), (.ref b2_2)]))
    refine own_callV X15 hx hZ (y := (⟨"com/example/weiche/weiche/net/Interval", "contains", "(J)Z"⟩ : MethodName)) (z := (⟨"com/example/weiche/weiche/net/Interval", "contains", "(J)Z"⟩ : MethodName)) hown (hw _ (List.mem_of_getElem? (i := 47) rfl)) (hw _ (List.mem_of_getElem? (i := 48) rfl)) (notFace_of_selects (args := #[]) (mvT hZ (hw _ (List.mem_of_getElem? (i := 50) rfl)))) (hw _ (List.mem_of_getElem? (i := 50) rfl)) (hw _ (List.mem_of_getElem? (i := 49) rfl)) (hw _ (List.mem_of_getElem? (i := 7) rfl)) (hw _ (List.mem_of_getElem? (i := 51) rfl)) (by decide) f0_2 (own_m9 l Z a0 hw [] b2_2 ((lo.toInt64) - (1 : Int64)) lo s_OptionalInt_EMPTY T2.heap n0 Z2 f0_2 G7 f1_2 f2_2 G8) 0 (by decide) (by decide) eq15 (by decide) (by decide) (g := (mkF m 91 #[.val (.int p0), .val (.long q1), .second, .val (.int lo), .val (.ref b2_2)] [(.long ((lo.toInt64) - (1 : Int64))), (.ref b2_2)])) rfl (by rw [hml']; rfl) (argsL := [(.long ((lo.toInt64) - (1 : Int64)))]) (rest := []) rfl (lenOf own_pd_J_Z_245 rfl) rfl (by show 2 * 0 + _ ≤ _; exact Nat.le_of_eq rfl) (hb hby at_91) (fun r17 T17 L17 X17 hQ17 => ?_)
    obtain ⟨rfl, Nq17, eq17⟩ := hQ17
    have N17 := Fr.app N15 Nq17
    show own_End p e below P (T17.setTop (mkF m 94 #[.val (.int p0), .val (.long q1), .second, .val (.int lo), .val (.ref b2_2)] [(.int (own_f9 ((lo.toInt64) - (1 : Int64)) lo))]))
    have hc18 : (own_f9 ((lo.toInt64) - (1 : Int64)) lo) = (0 : Int32) := by rw [own_cont]; have h1 := own_b32 lo; first | (rw [if_pos (by omega)]; try decide) | (rw [if_neg (by omega)]; try decide)
    refine own_st (fun _ => XS.ifYes X17.here hx rfl (pc0 := 94) (pc' := 99) rfl (hb hby at_94) rfl ((if0 _ _).trans (teq hc18).1) (by decide) (by decide)) ?_
    show own_End p e below P (T17.setTop (mkF m 99 #[.val (.int p0), .val (.long q1), .second, .val (.int lo), .val (.ref b2_2)] []))
    refine own_st (fun _ => XS.aload X17.here hx rfl (hb hby at_99) rfl rfl) ?_
    show own_End p e below P (T17.setTop (mkF m 101 #[.val (.int p0), .val (.long q1), .second, .val (.int lo), .val (.ref b2_2)] [(.ref b2_2)]))
    refine own_st (fun _ => X17.ldc2Long hx hown (mvT hZ (hw _ (List.mem_of_getElem? (i := 46) rfl))) (g := (mkF m 101 #[.val (.int p0), .val (.long q1), .second, .val (.int lo), .val (.ref b2_2)] [(.ref b2_2)])) rfl (hb hby at_101) _) ?_
    show own_End p e below P (T17.setTop (mkF m 104 #[.val (.int p0), .val (.long q1), .second, .val (.int lo), .val (.ref b2_2)] [(.long (9223372036854775807 : Int64)), (.ref b2_2)]))
    refine own_callV X17 hx hZ (y := (⟨"com/example/weiche/weiche/net/Interval", "contains", "(J)Z"⟩ : MethodName)) (z := (⟨"com/example/weiche/weiche/net/Interval", "contains", "(J)Z"⟩ : MethodName)) hown (hw _ (List.mem_of_getElem? (i := 47) rfl)) (hw _ (List.mem_of_getElem? (i := 48) rfl)) (notFace_of_selects (args := #[]) (mvT hZ (hw _ (List.mem_of_getElem? (i := 50) rfl)))) (hw _ (List.mem_of_getElem? (i := 50) rfl)) (hw _ (List.mem_of_getElem? (i := 49) rfl)) (hw _ (List.mem_of_getElem? (i := 7) rfl)) (hw _ (List.mem_of_getElem? (i := 51) rfl)) (by decide) f0_2 (own_m9 l Z a0 hw [] b2_2 (9223372036854775807 : Int64) lo s_OptionalInt_EMPTY T2.heap n0 Z2 f0_2 G7 f1_2 f2_2 G8) 0 (by decide) (by decide) eq17 (by decide) (by decide) (g := (mkF m 104 #[.val (.int p0), .val (.long q1), .second, .val (.int lo), .val (.ref b2_2)] [(.long (9223372036854775807 : Int64)), (.ref b2_2)])) rfl (by rw [hml']; rfl) (argsL := [(.long (9223372036854775807 : Int64))]) (rest := []) rfl (lenOf own_pd_J_Z_245 rfl) rfl (by show 2 * 0 + _ ≤ _; exact Nat.le_of_eq rfl) (hb hby at_104) (fun r19 T19 L19 X19 hQ19 => ?_)
    obtain ⟨rfl, Nq19, eq19⟩ := hQ19
    have N19 := Fr.app N17 Nq19
    show own_End p e below P (T19.setTop (mkF m 107 #[.val (.int p0), .val (.long q1), .second, .val (.int lo), .val (.ref b2_2)] [(.int (own_f9 (9223372036854775807 : Int64) lo))]))
    have hc20 : ¬ ((own_f9 (9223372036854775807 : Int64) lo) = (0 : Int32)) := by rw [own_cont]; have h1 := own_b32 lo; first | (rw [if_pos (by omega)]; try decide) | (rw [if_neg (by omega)]; try decide)
    refine own_st (fun _ => XS.ifYes X19.here hx rfl (pc0 := 107) (pc' := 112) rfl (hb hby at_107) rfl ((if0 _ _).trans (feq hc20).2) (by decide) (by decide)) ?_
    show own_End p e below P (T19.setTop (mkF m 112 #[.val (.int p0), .val (.long q1), .second, .val (.int lo), .val (.ref b2_2)] []))
    refine own_st (fun _ => XS.iconst X19.here hx rfl (hb hby at_112)) ?_
    show own_End p e below P (T19.setTop (mkF m 113 #[.val (.int p0), .val (.long q1), .second, .val (.int lo), .val (.ref b2_2)] [(.int (1 : Int32))]))
    exact own_retN X19 hx hlk hP (t := .boolean) (by simp) hrt (hb hby at_113) (by decide) (by decide) ⟨rfl, N19⟩
  by_cases hc11 : q1 < (lo.toInt64)
  · refine own_st (fun _ => XS.ifYes X10.here hx rfl (pc0 := 60) (pc' := 67) rfl (hb hby at_60) rfl ((if0 _ _).trans (tlt (own_lt.mpr hc11)).1) (by decide) (by decide)) ?_
    show own_End p e below P (T10.setTop (mkF m 67 #[.val (.int p0), .val (.long q1), .second, .val (.int lo), .val (.ref b2_2)] [(.int (own_f9 q1 lo))]))
    refine own_st (fun _ => XS.iconst X10.here hx rfl (hb hby at_67)) ?_
    show own_End p e below P (T10.setTop (mkF m 68 #[.val (.int p0), .val (.long q1), .second, .val (.int lo), .val (.ref b2_2)] [(.int (0 : Int32)), (.int (own_f9 q1 lo))]))
    exact J13 _ ((if_pos hc11).trans (rfl)).symm
  · refine own_st (fun _ => XS.ifNo X10.here hx rfl (hb hby at_60) rfl ((if0 _ _).trans (flt (mt own_lt.mp hc11)).1)) ?_
    show own_End p e below P (T10.setTop (mkF m 63 #[.val (.int p0), .val (.long q1), .second, .val (.int lo), .val (.ref b2_2)] [(.int (own_f9 q1 lo))]))
    refine own_st (fun _ => XS.iconst X10.here hx rfl (hb hby at_63)) ?_
    show own_End p e below P (T10.setTop (mkF m 64 #[.val (.int p0), .val (.long q1), .second, .val (.int lo), .val (.ref b2_2)] [(.int (1 : Int32)), (.int (own_f9 q1 lo))]))
    refine own_st (fun _ => XS.goto X10.here hx rfl (pc0 := 64) (pc' := 68) rfl (hb hby at_64) (by decide) (by decide)) ?_
    show own_End p e below P (T10.setTop (mkF m 68 #[.val (.int p0), .val (.long q1), .second, .val (.int lo), .val (.ref b2_2)] [(.int (1 : Int32)), (.int (own_f9 q1 lo))]))
    exact J13 _ ((if_neg hc11).trans (rfl)).symm
set_option maxRecDepth 65536 in
set_option maxHeartbeats 40000000 in
theorem comes_1 {Post : Tables → Env → Array Value → State → Outcome → State → Prop} (hpost : ∀ tb e args s v u, (limb_1_1.after args s (.returned v) u = true ∧ limb_1_2.after args s (.returned v) u = true ∧ True) → FrameEnd s (.returned v) u (Jvm.fieldLocs frame_1_writes args s ++ Jvm.arrayLocs frame_1_arrays args s ++ Jvm.staticLocs frame_1_statics s) 16 128 → Post tb e args s (.returned v) u) :
    ArmFor flags0 classFile x code maxLocals ret World_1 tables_1 room_1 Calls_1 rest_1 Pre_1 Post := by
  intro l hfl _ _ p e ha hc hk s m args below hf hA hF happ hP
  obtain ⟨hcalls, hrest, hpre⟩ := hP
  obtain ⟨-, -, -, hnamed, -, -, -, hat⟩ := (Spec.applies_iff hf).mp happ
  obtain ⟨hg, hn⟩ := and_e (Cond.before_iff.mp (show (Jvm.Cond.and given_1 narrow_1).before args s = true from hpre))
  obtain ⟨k1, l1⟩ := and_e hg
  obtain ⟨k2, l2⟩ := and_e l1
  obtain ⟨w0, w1, rfl⟩ : ∃ w0 w1 : Value, args = #[w0, w1] := by
    have hs : args.size = 2 := by simpa [Cond.value, given_1] using k1
    obtain ⟨L⟩ := args
    match L, hs with
    | [w0, w1], _ => exact ⟨w0, w1, rfl⟩
  have hw := fun d (hd : d ∈ tables_1) => atoms_spec (ws := Jvm.Cond.code x code maxLocals ret :: tables_1) hat d (List.mem_cons_of_mem _ hd)
  have hfit : Fit s := fun {y c} hc i hi => by
    obtain ⟨ha, rfl⟩ := Array.getElem?_eq_some_iff.mp hc
    have q := List.all_eq_true.mp ((Array.all_eq_true_iff_forall_mem.mp hF) _ (Array.getElem_mem ha)) i (List.mem_range.mpr hi)
    simpa [Array.getElem?_eq_getElem hi] using q
  obtain ⟨hsets, hown0⟩ := atoms_of _ (rest_1_c_eq ▸ (show rest_1_c.before _ s = true from hrest))
  have hr0 := Cond.before_iff.mp hown0
  obtain ⟨i0, ei0⟩ := is_v k2
  obtain rfl : w0 = (.int i0) := Option.some.inj ei0
  obtain ⟨i1, ei1⟩ := isL_v l2
  obtain rfl : w1 = (.long i1) := Option.some.inj ei1
  obtain ⟨bE, eb⟩ := exa_v (Cond.before_iff.mp (hsets _ (List.mem_of_getElem? (i := 2) rfl)))
  have S1 : Sta s s.heap "java/util/OptionalInt" "EMPTY" "Ljava/util/OptionalInt;" (.ref bE) := Sta.start eb (Or.inl (hsets _ (List.mem_of_getElem? (i := 1) rfl)))
  have E1 : Exa s s.heap bE "java/util/OptionalInt" := Exa.start eb (Cond.before_iff.mp (hsets _ (List.mem_of_getElem? (i := 2) rfl)))
  have F1 : Fld s s.heap bE "java/util/OptionalInt" "isPresent" "Z" (.int (0 : Int32)) := Fld.start ((fld_at eb).symm.trans (own_eqInt (Cond.before_iff.mp (hsets _ (List.mem_of_getElem? (i := 3) rfl)))))
  obtain ⟨n, o, h1, h2, h3, _, L, rfl, ⟨rfl, N⟩, hq⟩ := own_m0 l s _ hw tables_1 i0 i1 bE s.heap s.heap.size (Nat.le_refl _) E1 F1 S1 p e ha hc hk s m _ below hf ((Spec.applies_iff_loose hf).mp happ).1 ⟨rfl, State.Warmed39.refl s, rfl⟩ trivial
  refine ⟨n, _, h1, h2, h3, hpost _ _ _ _ _ _ ⟨Cond.after_iff.mpr rfl, Cond.after_iff.mpr (eq_i res_at (Term.int_eval (1)) rfl), trivial⟩ ⟨hq.1, hq.2.1, (hq.2.2.sift fun y hy => Or.inr (N y hy)).mono (by decide) (by decide)⟩⟩
theorem main_1_1 : Claimed_1_1 := comes_1 fun _ _ _ _ _ _ h hF => ⟨h.1, hF⟩
theorem main_1_2 : Claimed_1_2 := comes_1 fun _ _ _ _ _ _ h hF => ⟨h.2.1, hF⟩
end Jvm.Pilot.@@N@@
namespace Jvm.Pilot.@@N@@
open Jvm Jvm.ClassFile Sem Op Lib Jvm.Free Jvm.Stand Jvm.Pilot.@@N@@.Jvm.D
/-! MADE BY PROGRAM (witnessworld.py) out of the Statement's table words and the real class files: 11 classes; the members and pool entries that the words name. The judged class is class 1, her method 1. -/
namespace start1
open Jvm.ClassFile
def u (s : String) : CpInfo := .utf8 (stringToUtf16 s)
/-- a pool by its gaps: so many unusable entries, then the entry; so many at the end -/
def gap : Nat → List CpInfo → List CpInfo
  | 0, r => r
  | n + 1, r => .unusable :: gap n r
def poolList (es : List (Nat × CpInfo)) (last : Nat) : List CpInfo := es.foldr (fun e r => gap e.1 (e.2 :: r)) (gap last [])
def pool (es : List (Nat × CpInfo)) (last : Nat) : Array CpInfo := ⟨poolList es last⟩
def fileOf (pool : Array CpInfo) (this : Nat) (attrs : Array Attribute := #[]) (ms : Array MethodInfo := #[]) (fl : Nat := 33) (sup : Nat := 0) (ifs : Array Nat := #[]) (fds : Array FieldInfo := #[]) : ClassFile where
  minorVersion := 0
  majorVersion := 65
  constantPool := pool
  accessFlags := fl
  thisClass := this
  superClass := sup
  interfaces := ifs
  fields := fds
  methods := ms
  attributes := attrs
def plain (name : String) (sup : Option ClassId) : Class where
  name := name
  kind := .ordinary
  loader := none
  accessFlags := 33
  super := sup
  interfaces := #[]
  cf := none
  fields := #[]
  methods := #[]
  instanceTypes := #[]
  staticTypes := #[]
  resolved := #[]
  callSites := []
  init := .initialized
  statics := none
  mirror := none

def pool0 : Array CpInfo := pool [(5, u "<init>"), (0, u "()V"), (1, .class_ 10), (1, u "java/lang/Object")] 113

def k0c0 : Code := { maxStack := 0, maxLocals := 1, code := object_method_1_code, exceptionTable := #[], attributes := #[] }
def k0m0 : Method := { name := "<init>", desc := "()V", sig := { parameters := [], returnType := none }, accessFlags := 1, code := some k0c0 }
/-- java/lang/Object -/
def k0 : Class := { plain "java/lang/Object" none with
  accessFlags := 33
  interfaces := #[]
  cf := some (fileOf pool0 8 #[] #[{ accessFlags := 1, nameIndex := 5, descriptorIndex := 6, attributes := #[] }] 33 0 #[] #[])
  fields := #[]
  methods := #[k0m0]
  instanceTypes := #[]
  staticTypes := #[]
  resolved := Array.replicate 124 none
  statics := none }

def pool1 : Array CpInfo := pool [(2, .class_ 4), (1, u "java/lang/Object"), (0, u "<init>"), (0, u "()V"), (0, .integer 2147483647), (0, .methodref 9 10), (0, .class_ 11), (0, .nameAndType 12 13), (0, u "java/lang/Math"), (0, u "max"), (0, u "(II)I"), (0, .methodref 15 16), (0, .class_ 17), (0, .nameAndType 18 19), (0, u "com/example/weiche/weiche/net/Interval"), (0, u "unbounded"), (0, u "(I)Lcom/example/weiche/weiche/net/Interval;"), (0, .methodref 15 21), (0, .nameAndType 22 23), (0, u "lower"), (0, u "()I"), (0, .methodref 15 25), (0, .nameAndType 26 27), (0, u "isPast"), (0, u "(J)Z"), (2, .long 9223372036854775807), (1, .methodref 15 33), (0, .nameAndType 34 27), (0, u "contains"), (0, .class_ 36), (0, u "com/example/weiche/weiche/net/IntervalUnboundedPinLaw"), (2, u "law"), (0, u "(IJ)Z")] 3

def k1m0 : Method := { name := "<init>", desc := "()V", sig := { parameters := [], returnType := none }, accessFlags := 1, code := none }
def k1c1 : Code := { maxStack := 5, maxLocals := 5, code := code, exceptionTable := #[], attributes := #[] }
def k1m1 : Method := { name := "law", desc := "(IJ)Z", sig := { parameters := [.int, .long], returnType := some .boolean }, accessFlags := 9, code := some k1c1 }
/-- com/example/weiche/weiche/net/IntervalUnboundedPinLaw -/
def k1 : Class := { plain "com/example/weiche/weiche/net/IntervalUnboundedPinLaw" (some 0) with
  accessFlags := 49
  interfaces := #[]
  cf := some (fileOf pool1 35 #[] #[{ accessFlags := 1, nameIndex := 5, descriptorIndex := 6, attributes := #[] }, { accessFlags := 9, nameIndex := 39, descriptorIndex := 40, attributes := #[] }] 49 2 #[] #[])
  fields := #[]
  methods := #[k1m0, k1m1]
  instanceTypes := #[]
  staticTypes := #[]
  resolved := Array.replicate 44 none
  statics := none }

def pool2 : Array CpInfo := pool [(1, .class_ 2), (0, u "java/lang/Math"), (1, .class_ 6), (1, u "java/lang/Object"), (0, u "<init>"), (0, u "()V"), (89, .class_ 100), (1, u "java/lang/Math$RandomNumberGeneratorHolder"), (71, u "negativeZeroFloatBits"), (0, u "J"), (2, u "negativeZeroDoubleBits"), (21, u "max"), (46, u "$assertionsDisabled"), (0, u "Z"), (88, u "(II)I"), (2, u "twoToTheDoubleScaleDown"), (0, u "D"), (4, u "twoToTheDoubleScaleUp"), (9, u "E"), (3, u "PI"), (2, u "TAU"), (2, u "DEGREES_TO_RADIANS"), (0, u "RADIANS_TO_DEGREES")] 94

def k2m0 : Method := { name := "<init>", desc := "()V", sig := { parameters := [], returnType := none }, accessFlags := 2, code := none }
def k2c1 : Code := { maxStack := 2, maxLocals := 2, code := jdk_29_method_65_code, exceptionTable := #[], attributes := #[] }
def k2m1 : Method := { name := "max", desc := "(II)I", sig := { parameters := [.int, .int], returnType := some .int }, accessFlags := 9, code := some k2c1 }
/-- java/lang/Math -/
def k2 : Class := { plain "java/lang/Math" (some 0) with
  accessFlags := 49
  interfaces := #[]
  cf := some (fileOf pool2 1 #[.nestMembers #[98]] #[{ accessFlags := 2, nameIndex := 7, descriptorIndex := 8, attributes := #[] }, { accessFlags := 9, nameIndex := 198, descriptorIndex := 335, attributes := #[] }] 49 4 #[] #[{ accessFlags := 25, nameIndex := 354, descriptorIndex := 339, attributes := #[] }, { accessFlags := 25, nameIndex := 358, descriptorIndex := 339, attributes := #[] }, { accessFlags := 25, nameIndex := 361, descriptorIndex := 339, attributes := #[] }, { accessFlags := 26, nameIndex := 364, descriptorIndex := 339, attributes := #[] }, { accessFlags := 26, nameIndex := 365, descriptorIndex := 339, attributes := #[] }, { accessFlags := 26, nameIndex := 172, descriptorIndex := 173, attributes := #[] }, { accessFlags := 26, nameIndex := 176, descriptorIndex := 173, attributes := #[] }, { accessFlags := 8, nameIndex := 344, descriptorIndex := 339, attributes := #[] }, { accessFlags := 8, nameIndex := 338, descriptorIndex := 339, attributes := #[] }, { accessFlags := 4120, nameIndex := 245, descriptorIndex := 246, attributes := #[] }])
  fields := #[{ name := "E", type := .double, accessFlags := 25, slot := 0, constantValue := 0 }, { name := "PI", type := .double, accessFlags := 25, slot := 1, constantValue := 0 }, { name := "TAU", type := .double, accessFlags := 25, slot := 2, constantValue := 0 }, { name := "DEGREES_TO_RADIANS", type := .double, accessFlags := 26, slot := 3, constantValue := 0 }, { name := "RADIANS_TO_DEGREES", type := .double, accessFlags := 26, slot := 4, constantValue := 0 }, { name := "negativeZeroFloatBits", type := .long, accessFlags := 26, slot := 5, constantValue := 0 }, { name := "negativeZeroDoubleBits", type := .long, accessFlags := 26, slot := 6, constantValue := 0 }, { name := "twoToTheDoubleScaleUp", type := .double, accessFlags := 8, slot := 7, constantValue := 0 }, { name := "twoToTheDoubleScaleDown", type := .double, accessFlags := 8, slot := 8, constantValue := 0 }, { name := "$assertionsDisabled", type := .boolean, accessFlags := 4120, slot := 9, constantValue := 0 }]
  methods := #[k2m0, k2m1]
  instanceTypes := #[]
  staticTypes := #[.double, .double, .double, .double, .double, .long, .long, .double, .double, .boolean]
  resolved := Array.replicate 460 none
  statics := none }

def pool3 : Array CpInfo := pool [(1, .methodref 2 3), (0, .class_ 4), (0, .nameAndType 5 6), (0, u "java/lang/Object"), (0, u "<init>"), (0, u "()V"), (0, .fieldref 8 9), (0, .class_ 10), (0, .nameAndType 11 12), (0, u "com/example/weiche/weiche/net/Interval"), (0, u "lower"), (0, u "I"), (0, .fieldref 8 14), (0, .nameAndType 15 16), (0, u "upper"), (0, u "Ljava/util/OptionalInt;"), (0, .methodref 8 18), (0, .nameAndType 19 20), (0, u "checkLower"), (0, u "(I)V"), (10, .class_ 33), (1, u "java/util/OptionalInt"), (2, .methodref 8 37), (0, .nameAndType 5 38), (0, u "(ILjava/util/OptionalInt;)V"), (0, .methodref 31 40), (0, .nameAndType 41 42), (0, u "empty"), (0, u "()Ljava/util/OptionalInt;"), (3, .methodref 8 47), (0, .nameAndType 48 49), (0, u "isPast"), (0, u "(J)Z"), (0, .methodref 31 51), (0, .nameAndType 52 53), (0, u "isPresent"), (0, u "()Z"), (3, u "()I"), (0, u "SMALLEST_LOWER_BOUND"), (7, u "unbounded"), (0, u "(I)Lcom/example/weiche/weiche/net/Interval;"), (0, u "contains")] 19

def k3c0 : Code := { maxStack := 2, maxLocals := 3, code := prog_22_method_1_code, exceptionTable := #[], attributes := #[] }
def k3m0 : Method := { name := "<init>", desc := "(ILjava/util/OptionalInt;)V", sig := { parameters := [.int, (.object "java/util/OptionalInt")], returnType := none }, accessFlags := 2, code := some k3c0 }
def k3c1 : Code := { maxStack := 4, maxLocals := 1, code := prog_22_method_3_code, exceptionTable := #[], attributes := #[] }
def k3m1 : Method := { name := "unbounded", desc := "(I)Lcom/example/weiche/weiche/net/Interval;", sig := { parameters := [.int], returnType := some (.object "com/example/weiche/weiche/net/Interval") }, accessFlags := 9, code := some k3c1 }
def k3c2 : Code := { maxStack := 3, maxLocals := 1, code := prog_22_method_4_code, exceptionTable := #[], attributes := #[] }
def k3m2 : Method := { name := "checkLower", desc := "(I)V", sig := { parameters := [.int], returnType := none }, accessFlags := 10, code := some k3c2 }
def k3c3 : Code := { maxStack := 1, maxLocals := 1, code := prog_22_method_5_code, exceptionTable := #[], attributes := #[] }
def k3m3 : Method := { name := "lower", desc := "()I", sig := { parameters := [], returnType := some .int }, accessFlags := 1, code := some k3c3 }
def k3c4 : Code := { maxStack := 4, maxLocals := 3, code := prog_22_method_7_code, exceptionTable := #[], attributes := #[] }
def k3m4 : Method := { name := "contains", desc := "(J)Z", sig := { parameters := [.long], returnType := some .boolean }, accessFlags := 1, code := some k3c4 }
def k3c5 : Code := { maxStack := 4, maxLocals := 3, code := prog_22_method_8_code, exceptionTable := #[], attributes := #[] }
def k3m5 : Method := { name := "isPast", desc := "(J)Z", sig := { parameters := [.long], returnType := some .boolean }, accessFlags := 1, code := some k3c5 }
/-- com/example/weiche/weiche/net/Interval -/
def k3 : Class := { plain "com/example/weiche/weiche/net/Interval" (some 0) with
  accessFlags := 49
  interfaces := #[]
  cf := some (fileOf pool3 8 #[] #[{ accessFlags := 2, nameIndex := 5, descriptorIndex := 38, attributes := #[] }, { accessFlags := 9, nameIndex := 66, descriptorIndex := 67, attributes := #[] }, { accessFlags := 10, nameIndex := 19, descriptorIndex := 20, attributes := #[] }, { accessFlags := 1, nameIndex := 11, descriptorIndex := 57, attributes := #[] }, { accessFlags := 1, nameIndex := 68, descriptorIndex := 49, attributes := #[] }, { accessFlags := 1, nameIndex := 48, descriptorIndex := 49, attributes := #[] }] 49 2 #[] #[{ accessFlags := 26, nameIndex := 58, descriptorIndex := 12, attributes := #[] }, { accessFlags := 18, nameIndex := 11, descriptorIndex := 12, attributes := #[] }, { accessFlags := 18, nameIndex := 15, descriptorIndex := 16, attributes := #[] }])
  fields := #[{ name := "SMALLEST_LOWER_BOUND", type := .int, accessFlags := 26, slot := 0, constantValue := 0 }, { name := "lower", type := .int, accessFlags := 18, slot := 0, constantValue := 0 }, { name := "upper", type := (.object "java/util/OptionalInt"), accessFlags := 18, slot := 1, constantValue := 0 }]
  methods := #[k3m0, k3m1, k3m2, k3m3, k3m4, k3m5]
  instanceTypes := #[.int, (.object "java/util/OptionalInt")]
  staticTypes := #[.int]
  resolved := Array.replicate 88 none
  statics := none }

def pool4 : Array CpInfo := pool [(2, .class_ 4), (1, u "java/lang/Object"), (0, u "<init>"), (0, u "()V"), (0, .fieldref 8 9), (0, .class_ 10), (0, .nameAndType 11 12), (0, u "java/util/OptionalInt"), (0, u "isPresent"), (0, u "Z"), (2, u "value"), (0, u "I"), (0, .fieldref 8 18), (0, .nameAndType 19 20), (0, u "EMPTY"), (0, u "Ljava/util/OptionalInt;"), (28, u "empty"), (46, u "()Ljava/util/OptionalInt;"), (2, u "()Z")] 36

def k4m0 : Method := { name := "<init>", desc := "()V", sig := { parameters := [], returnType := none }, accessFlags := 2, code := none }
def k4c1 : Code := { maxStack := 1, maxLocals := 0, code := jdk_2649_method_2_code, exceptionTable := #[], attributes := #[] }
def k4m1 : Method := { name := "empty", desc := "()Ljava/util/OptionalInt;", sig := { parameters := [], returnType := some (.object "java/util/OptionalInt") }, accessFlags := 9, code := some k4c1 }
def k4c2 : Code := { maxStack := 1, maxLocals := 1, code := jdk_2649_method_6_code, exceptionTable := #[], attributes := #[] }
def k4m2 : Method := { name := "isPresent", desc := "()Z", sig := { parameters := [], returnType := some .boolean }, accessFlags := 1, code := some k4c2 }
/-- java/util/OptionalInt -/
def k4 : Class := { plain "java/util/OptionalInt" (some 0) with
  accessFlags := 49
  interfaces := #[]
  cf := some (fileOf pool4 8 #[] #[{ accessFlags := 2, nameIndex := 5, descriptorIndex := 6, attributes := #[] }, { accessFlags := 9, nameIndex := 49, descriptorIndex := 96, attributes := #[] }, { accessFlags := 1, nameIndex := 11, descriptorIndex := 99, attributes := #[] }] 49 2 #[] #[{ accessFlags := 26, nameIndex := 19, descriptorIndex := 20, attributes := #[] }, { accessFlags := 18, nameIndex := 11, descriptorIndex := 12, attributes := #[] }, { accessFlags := 18, nameIndex := 15, descriptorIndex := 16, attributes := #[] }])
  fields := #[{ name := "EMPTY", type := (.object "java/util/OptionalInt"), accessFlags := 26, slot := 0, constantValue := 0 }, { name := "isPresent", type := .boolean, accessFlags := 18, slot := 0, constantValue := 0 }, { name := "value", type := .int, accessFlags := 18, slot := 1, constantValue := 0 }]
  methods := #[k4m0, k4m1, k4m2]
  instanceTypes := #[.boolean, .int]
  staticTypes := #[(.object "java/util/OptionalInt")]
  resolved := Array.replicate 136 none
  statics := some 0 }

def pool5 : Array CpInfo := pool [(1, u "java/lang/Cloneable"), (0, .class_ 1), (0, u "java/lang/Object"), (0, .class_ 3)] 3

/-- java/lang/Cloneable -/
def k5 : Class := { plain "java/lang/Cloneable" (some 0) with
  accessFlags := 1537
  interfaces := #[]
  cf := some (fileOf pool5 2 #[] #[] 1537 4 #[] #[])
  fields := #[]
  methods := #[]
  instanceTypes := #[]
  staticTypes := #[]
  resolved := Array.replicate 8 none
  statics := none }

def pool6 : Array CpInfo := pool [(1, u "java/io/Serializable"), (0, .class_ 1), (0, u "java/lang/Object"), (0, .class_ 3)] 3

/-- java/io/Serializable -/
def k6 : Class := { plain "java/io/Serializable" (some 0) with
  accessFlags := 1537
  interfaces := #[]
  cf := some (fileOf pool6 2 #[] #[] 1537 4 #[] #[])
  fields := #[]
  methods := #[]
  instanceTypes := #[]
  staticTypes := #[]
  resolved := Array.replicate 8 none
  statics := none }

/-- the primitive byte -/
def k7 : Class := { plain "byte" none with kind := .primitive 'B', accessFlags := 0x411 }
/-- [B -/
def k8 : Class := { plain "[B" (some 0) with kind := .array 7 .byte, interfaces := #[5, 6], accessFlags := 1041 }

/-- the primitive int -/
def k9 : Class := { plain "int" none with kind := .primitive 'I', accessFlags := 0x411 }
/-- [I -/
def k10 : Class := { plain "[I" (some 0) with kind := .array 9 .int, interfaces := #[5, 6], accessFlags := 1041 }

def heap : Heap := #[{ cls := 4, slots := #[.ref 1], vm := .statics 4 },
  { cls := 4, slots := #[.int 0, .int 0], vm := .none }]
def classes : Array Class := #[k0, k1, k2, k3, k4, k5, k6, k7, k8, k9, k10]
def interned : List (Array UInt16 × Addr) := []
def slotsUsed : Nat := 3
def theMethod : MethodId := ⟨1, 1⟩
def args0 : Array Value := #[.int 5, .long 9]
def aboutOver (below : List Frame) : State where
  vm := { classes := classes, interned := interned.toArray }
  heap := heap
  slotsUsed := slotsUsed
  threads := #[{ frames := .invoking theMethod args0 :: below }]
def below0 : List Frame := [.native { method := ⟨0, 0⟩, args := #[] }]
def about1 : State := aboutOver below0
def p0 : Program := .bare "" "" ""
def e0 : Env := launch0.env 0 0 0
theorem w_frames : about1.frames = Frame.invoking theMethod args0 :: below0 := rfl
set_option maxRecDepth 65536 in
theorem w_args : argsFit about1.vm theMethod args0 = true := by decide +kernel
set_option maxRecDepth 65536 in
theorem w_heap : heapFits about1 = true := by decide +kernel
set_option maxRecDepth 65536 in
theorem w_runnable : about1.curStatus? = some .runnable := by decide +kernel
set_option maxRecDepth 65536 in
theorem w_alone : about1.alone = true := by decide +kernel
set_option maxRecDepth 65536 in
theorem w_named : about1.methodNamed? x = some theMethod := by decide +kernel
set_option maxRecDepth 65536 in
theorem w_hears : about1.hears theMethod below0 = true := by decide +kernel
set_option maxRecDepth 65536 in
theorem w_ripe : about1.ripe theMethod args0 below0 = true := by decide +kernel
theorem w_running : about1.status = .running := rfl
set_option maxRecDepth 65536 in
theorem w_room : about1.hasRoom e0.platform room_1 = true :=
  launch0.hasRoom_least _ room_1 (by decide +kernel) (by decide +kernel) (by decide +kernel) (by decide +kernel) (by decide +kernel) (by decide +kernel)
theorem allAtoms_all (ts : List Jvm.Cond) (a : Array Jvm.Value) (st : Jvm.State) : (allAtoms ts).before a st = ts.all (fun c => c.before a st) := by
  induction ts with
  | nil => rfl
  | cons c t ih =>
    show (Jvm.Cond.and c (allAtoms t)).before a st = _
    rw [Jvm.Cond.before_and, ih, List.all_cons]
def words1 : List Jvm.Cond := Jvm.Cond.code x code maxLocals ret :: tables_1
/-- a 'code' word, met by the world's own term for the bytes: nothing is compared byte by byte -/
theorem code_word {y : MethodName} {bytes : ByteArray} {mx : Nat} {rt : Option FieldType} {a : Array Value} {s : State} {m : MethodId} {meth : Method} {c : Code} (h1 : s.methodNamed? y = some m) (h2 : s.vm.method? m = some meth) (h3 : meth.code = some c) (h4 : c.code = bytes)
    (h5 : (c.maxLocals == mx && c.exceptionTable.isEmpty && decide (c.maxStack ≤ mostOperands) && decide (meth.sig.returnType = rt) && !meth.locks && decide (parseMethodDescriptor y.desc = some meth.sig)) = true) : (Jvm.Cond.code y bytes mx rt).before a s = true := by
  simp only [Bool.and_eq_true, beq_iff_eq, Bool.not_eq_true', decide_eq_true_eq] at h5
  obtain ⟨⟨⟨⟨⟨g1, g2⟩, g3⟩, g4⟩, g5⟩, g6⟩ := h5
  simp [Cond.before, Cond.holds, Cond.value, h1, h2, h3, h4, g1, g2, g3, g4, g5, g6]
def isCode : Jvm.Cond → Bool
  | .code _ _ _ _ => true
  | _ => false
theorem all_split {L : List Jvm.Cond} {P : Jvm.Cond → Bool} (h1 : L.all (fun c => isCode c || P c) = true) (h2 : ∀ c ∈ L.filter isCode, P c = true) : L.all P = true := by
  refine List.all_eq_true.mpr fun c hc => ?_
  have h := List.all_eq_true.mp h1 c hc
  rcases Bool.eq_false_or_eq_true (isCode c) with hi | hi
  · exact h2 c (List.mem_filter.mpr ⟨hc, hi⟩)
  · simpa [hi] using h
set_option maxRecDepth 65536 in
theorem w_c0 : (Jvm.Cond.code x code maxLocals ret).before args0 about1 = true := code_word (m := ⟨1, 1⟩) (meth := k1m1) (c := k1c1) (by decide +kernel) rfl rfl rfl (by decide +kernel)
set_option maxRecDepth 65536 in
theorem w_c1 : (Jvm.Cond.code ({ cls := "java/lang/Math", name := "max", desc := "(II)I" } : Jvm.MethodName) jdk_29_method_65_code (2 : Nat) (Option.some Jvm.ClassFile.FieldType.int)).before args0 about1 = true := code_word (m := ⟨2, 1⟩) (meth := k2m1) (c := k2c1) (by decide +kernel) rfl rfl rfl (by decide +kernel)
set_option maxRecDepth 65536 in
theorem w_c2 : (Jvm.Cond.code ({ cls := "com/example/weiche/weiche/net/Interval", name := "unbounded", desc := "(I)Lcom/example/weiche/weiche/net/Interval;" } : Jvm.MethodName) prog_22_method_3_code (1 : Nat) (Option.some (Jvm.ClassFile.FieldType.object "com/example/weiche/weiche/net/Interval"))).before args0 about1 = true := code_word (m := ⟨3, 1⟩) (meth := k3m1) (c := k3c1) (by decide +kernel) rfl rfl rfl (by decide +kernel)
set_option maxRecDepth 65536 in
theorem w_c3 : (Jvm.Cond.code ({ cls := "com/example/weiche/weiche/net/Interval", name := "checkLower", desc := "(I)V" } : Jvm.MethodName) prog_22_method_4_code (1 : Nat) (Option.none : Option Jvm.ClassFile.FieldType)).before args0 about1 = true := code_word (m := ⟨3, 2⟩) (meth := k3m2) (c := k3c2) (by decide +kernel) rfl rfl rfl (by decide +kernel)
set_option maxRecDepth 65536 in
theorem w_c4 : (Jvm.Cond.code ({ cls := "java/util/OptionalInt", name := "empty", desc := "()Ljava/util/OptionalInt;" } : Jvm.MethodName) jdk_2649_method_2_code (0 : Nat) (Option.some (Jvm.ClassFile.FieldType.object "java/util/OptionalInt"))).before args0 about1 = true := code_word (m := ⟨4, 1⟩) (meth := k4m1) (c := k4c1) (by decide +kernel) rfl rfl rfl (by decide +kernel)
set_option maxRecDepth 65536 in
theorem w_c5 : (Jvm.Cond.code ({ cls := "com/example/weiche/weiche/net/Interval", name := "<init>", desc := "(ILjava/util/OptionalInt;)V" } : Jvm.MethodName) prog_22_method_1_code (3 : Nat) (Option.none : Option Jvm.ClassFile.FieldType)).before args0 about1 = true := code_word (m := ⟨3, 0⟩) (meth := k3m0) (c := k3c0) (by decide +kernel) rfl rfl rfl (by decide +kernel)
set_option maxRecDepth 65536 in
theorem w_c6 : (Jvm.Cond.code ({ cls := "java/lang/Object", name := "<init>", desc := "()V" } : Jvm.MethodName) object_method_1_code (1 : Nat) (Option.none : Option Jvm.ClassFile.FieldType)).before args0 about1 = true := code_word (m := ⟨0, 0⟩) (meth := k0m0) (c := k0c0) (by decide +kernel) rfl rfl rfl (by decide +kernel)
set_option maxRecDepth 65536 in
theorem w_c7 : (Jvm.Cond.code ({ cls := "com/example/weiche/weiche/net/Interval", name := "lower", desc := "()I" } : Jvm.MethodName) prog_22_method_5_code (1 : Nat) (Option.some Jvm.ClassFile.FieldType.int)).before args0 about1 = true := code_word (m := ⟨3, 3⟩) (meth := k3m3) (c := k3c3) (by decide +kernel) rfl rfl rfl (by decide +kernel)
set_option maxRecDepth 65536 in
theorem w_c8 : (Jvm.Cond.code ({ cls := "com/example/weiche/weiche/net/Interval", name := "isPast", desc := "(J)Z" } : Jvm.MethodName) prog_22_method_8_code (3 : Nat) (Option.some Jvm.ClassFile.FieldType.boolean)).before args0 about1 = true := code_word (m := ⟨3, 5⟩) (meth := k3m5) (c := k3c5) (by decide +kernel) rfl rfl rfl (by decide +kernel)
set_option maxRecDepth 65536 in
theorem w_c9 : (Jvm.Cond.code ({ cls := "java/util/OptionalInt", name := "isPresent", desc := "()Z" } : Jvm.MethodName) jdk_2649_method_6_code (1 : Nat) (Option.some Jvm.ClassFile.FieldType.boolean)).before args0 about1 = true := code_word (m := ⟨4, 2⟩) (meth := k4m2) (c := k4c2) (by decide +kernel) rfl rfl rfl (by decide +kernel)
set_option maxRecDepth 65536 in
theorem w_c10 : (Jvm.Cond.code ({ cls := "com/example/weiche/weiche/net/Interval", name := "contains", desc := "(J)Z" } : Jvm.MethodName) prog_22_method_7_code (3 : Nat) (Option.some Jvm.ClassFile.FieldType.boolean)).before args0 about1 = true := code_word (m := ⟨3, 4⟩) (meth := k3m4) (c := k3c4) (by decide +kernel) rfl rfl rfl (by decide +kernel)
def codes1 : List Jvm.Cond := [Jvm.Cond.code x code maxLocals ret, Jvm.Cond.code ({ cls := "java/lang/Math", name := "max", desc := "(II)I" } : Jvm.MethodName) jdk_29_method_65_code (2 : Nat) (Option.some Jvm.ClassFile.FieldType.int), Jvm.Cond.code ({ cls := "com/example/weiche/weiche/net/Interval", name := "unbounded", desc := "(I)Lcom/example/weiche/weiche/net/Interval;" } : Jvm.MethodName) prog_22_method_3_code (1 : Nat) (Option.some (Jvm.ClassFile.FieldType.object "com/example/weiche/weiche/net/Interval")), Jvm.Cond.code ({ cls := "com/example/weiche/weiche/net/Interval", name := "checkLower", desc := "(I)V" } : Jvm.MethodName) prog_22_method_4_code (1 : Nat) (Option.none : Option Jvm.ClassFile.FieldType), Jvm.Cond.code ({ cls := "java/util/OptionalInt", name := "empty", desc := "()Ljava/util/OptionalInt;" } : Jvm.MethodName) jdk_2649_method_2_code (0 : Nat) (Option.some (Jvm.ClassFile.FieldType.object "java/util/OptionalInt")), Jvm.Cond.code ({ cls := "com/example/weiche/weiche/net/Interval", name := "<init>", desc := "(ILjava/util/OptionalInt;)V" } : Jvm.MethodName) prog_22_method_1_code (3 : Nat) (Option.none : Option Jvm.ClassFile.FieldType), Jvm.Cond.code ({ cls := "java/lang/Object", name := "<init>", desc := "()V" } : Jvm.MethodName) object_method_1_code (1 : Nat) (Option.none : Option Jvm.ClassFile.FieldType), Jvm.Cond.code ({ cls := "com/example/weiche/weiche/net/Interval", name := "lower", desc := "()I" } : Jvm.MethodName) prog_22_method_5_code (1 : Nat) (Option.some Jvm.ClassFile.FieldType.int), Jvm.Cond.code ({ cls := "com/example/weiche/weiche/net/Interval", name := "isPast", desc := "(J)Z" } : Jvm.MethodName) prog_22_method_8_code (3 : Nat) (Option.some Jvm.ClassFile.FieldType.boolean), Jvm.Cond.code ({ cls := "java/util/OptionalInt", name := "isPresent", desc := "()Z" } : Jvm.MethodName) jdk_2649_method_6_code (1 : Nat) (Option.some Jvm.ClassFile.FieldType.boolean), Jvm.Cond.code ({ cls := "com/example/weiche/weiche/net/Interval", name := "contains", desc := "(J)Z" } : Jvm.MethodName) prog_22_method_7_code (3 : Nat) (Option.some Jvm.ClassFile.FieldType.boolean)]
set_option maxRecDepth 65536 in
theorem codes_eq : words1.filter isCode = codes1 := rfl
theorem w_codes : ∀ c ∈ words1.filter isCode, c.before args0 about1 = true := by
  rw [codes_eq]
  intro c hc
  simp only [codes1, List.mem_cons, List.not_mem_nil, or_false] at hc
  rcases hc with rfl | rfl | rfl | rfl | rfl | rfl | rfl | rfl | rfl | rfl | rfl
  · exact w_c0
  · exact w_c1
  · exact w_c2
  · exact w_c3
  · exact w_c4
  · exact w_c5
  · exact w_c6
  · exact w_c7
  · exact w_c8
  · exact w_c9
  · exact w_c10
set_option maxRecDepth 65536 in
theorem w_t1 : (words1.take 24).all (fun c => isCode c || c.before args0 about1) = true := by decide +kernel
set_option maxRecDepth 65536 in
theorem w_t2 : ((words1.drop 24).take 24).all (fun c => isCode c || c.before args0 about1) = true := by decide +kernel
set_option maxRecDepth 65536 in
theorem w_t3 : ((words1.drop 24).drop 24).all (fun c => isCode c || c.before args0 about1) = true := by decide +kernel
theorem w_tables : (allAtoms (Jvm.Cond.code x code maxLocals ret :: tables_1)).before args0 about1 = true := by
  rw [allAtoms_all]
  show words1.all (fun c => c.before args0 about1) = true
  refine all_split ?_ w_codes
  rw [← List.take_append_drop 24 words1, List.all_append, w_t1, ← List.take_append_drop 24 (words1.drop 24), List.all_append, w_t2, w_t3]
  rfl
set_option maxRecDepth 65536 in
theorem w_rest : rest_1_c.before args0 about1 = true := by decide +kernel
set_option maxRecDepth 65536 in
theorem w_case : (Jvm.Cond.and given_1 narrow_1).before args0 about1 = true := by decide +kernel
theorem w_applies : (headSpec (Jvm.Cond.code x code maxLocals ret :: tables_1) room_1).applies x e0.platform about1 = true :=
  (Spec.applies_iff w_frames).mpr ⟨w_running, w_runnable, w_alone, w_named, w_hears, w_ripe, w_room, w_tables⟩
theorem atStart : AtStart classFile x code maxLocals ret World_1 tables_1 room_1 Calls_1 rest_1 Pre_1 launch0 p0 e0 about1 theMethod args0 below0 :=
  ⟨lists_1, trivial, launch0.admits_env _ _ _, launch0.least_env, fairChoices_fair.cas, fairChoices_fair.clock, w_frames, w_args, w_heap, w_applies, trivial, w_rest, w_case⟩
end start1
theorem witness_1 : WitnessClaimed_1 := ⟨start1.p0, start1.e0, start1.about1, start1.theMethod, start1.args0, start1.below0, start1.atStart⟩
end Jvm.Pilot.@@N@@
