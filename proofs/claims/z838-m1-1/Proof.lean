import JvmDerived
import JvmDerived.Pilot.@@N@@Statement
import JvmDerived.Pilot.@@N@@Code
set_option linter.unusedVariables false
set_option linter.unusedSimpArgs false
namespace Jvm.RoadKit
open Sem ClassFile Op Lib Jvm.Stand Jvm.Free Jvm.LawKit
section New
variable {p : Program} {l : Launch} {e : Env} {R : Room} {s : State} {m : MethodId} {args : Array Value} {below : List Frame} {meth : Method} {c : Code} {T : State} {locs : List Loc} {cells slots : Nat}
theorem retI (X : Stand p l e R s m args below meth c T locs cells slots) (hx : p.tables.exec = Jvm.exec) {pc : Nat} {Ls : Array Slot} {z : Int32} {rest : List Value} (hret : meth.sig.returnType = some .int) (hd : decode c.code pc = .ok (.ireturn, 1)) {fs : List Frame}
    (hl : ∀ (f : JFrame) (acts : List Action), f.method = m → f.locked = none → f.entered = [] → (doReturn e (T.setTop f) acts (some (.int z))).1 = T.setFrames fs) : Steps p.tables e below (T.setTop (mkF m pc Ls (.int z :: rest))) (T.setFrames fs) := by
  have hm' : T.vm.method? m = some meth := X.method'
  have hn : narrow .int (.int z) = .int z := rfl
  show Steps p.tables e below (T.setTop { method := m, pc := pc, locals := Ls, stack := _ :: rest, locked := none }) _
  jvm_step X.here [X.here.top, hx, hd, hm', hret, hn]
  first | (intro acts; rw [hl _ acts rfl rfl rfl]) | rw [hl _ _ rfl rfl rfl]
  exact Steps.refl _
end New
end Jvm.RoadKit
namespace Jvm.Pilot.@@N@@
open Jvm Jvm.ClassFile Sem Op Lib Jvm.Free Jvm.Stand Jvm.LawKit Jvm.RoadKit Bundle Jvm.Pilot.@@N@@.Jvm.D
def own_End (p : Program) (e : Env) (below : List Frame) (P : Outcome → State → Prop) (S : State) : Prop :=
  ∃ s₂ o, Steps p.tables e below S s₂ ∧ s₂.status = .running ∧ Ended s₂ below o ∧ P o s₂
abbrev own_Met (l : Launch) (Z : State) (y : MethodName) (bytes : ByteArray) (maxL : Nat) (rt : Option FieldType) (ws : List Jvm.Cond) (rm : Room) (as' : Array Value) (h0 : Heap) (Q : Option Value → Heap → List Loc → Prop) : Prop :=
  MetFree l y (head1 (Jvm.Cond.code y bytes maxL rt :: ws) rm) (fun a U => a = as' ∧ Z.Warmed39 U.vm ∧ U.heap = h0) (fun _ _ _ _ _ => True) (fun _ U o U' => ∃ v L, o = .returned v ∧ Q v U'.heap L ∧ FrameEnd U o U' L rm.cells rm.slots)
def own_Ok (Q : Option Value → Heap → List Loc → Prop) (s : State) (kc ks : Nat) (P : Outcome → State → Prop) : Prop := ∀ v U L, Q v U.heap L → FrameEnd s (.returned v) U L kc ks → P (.returned v) U
section Own
variable {p : Program} {l : Launch} {e : Env} {R : Room} {s : State} {m : MethodId} {args : Array Value} {below : List Frame} {meth : Method} {c : Code} {T : State} {locs : List Loc} {cells slots : Nat} {Z : State} {a0 : Array Value} {h : Heap} {P : Outcome → State → Prop}
theorem own_st {S S' : State} (q : ∀ t, Steps p.tables e below S' t → Steps p.tables e below S t) (k : own_End p e below P S') : own_End p e below P S := by
  obtain ⟨a, b, c, d⟩ := k
  exact ⟨a, b, q _ c, d⟩
theorem own_tr {S S' : State} (q : Steps p.tables e below S S') (k : own_End p e below P S') : own_End p e below P S := own_st (fun _ r => q.trans r) k
theorem own_enter {y : MethodName} {bytes : ByteArray} {maxL : Nat} {rt : Option FieldType} {ws : List Jvm.Cond} {rm : Room} {as' : Array Value} {h0 : Heap} {Q : Option Value → Heap → List Loc → Prop} (hpl : plainFor y = true)
    (body : ∀ (p : Program) (e : Env) (s : State) (m : MethodId) (below : List Frame) (meth : Method) (c : Code) (s₁ : State) (P : Outcome → State → Prop), p.tables.exec = Jvm.exec → c.code = bytes → c.maxLocals = maxL → meth.sig.returnType = rt → meth.locks = false → s.vm.findClass y.cls = some m.cls → meth.name = y.name → Z.Warmed39 s.vm →
      Stand p l e rm s m as' below meth c s₁ [] 0 0 → s₁.heap = h0 → own_Ok Q s rm.cells rm.slots P → own_End p e below P (s₁.setTop (entryFrame m as' maxL))) :
    own_Met l Z y bytes maxL rt ws rm as' h0 Q := by
  refine MetFree.of_bodySF hpl hisR ?_
  intro p e s m args below meth c s₁ Bd hml0 hP hK
  obtain ⟨rfl, hZ, hh⟩ := hP
  exact body p e s m below meth c s₁ _ Bd.exec Bd.bytes hml0 Bd.returns Bd.notSynchronized (findClass_of_methodNamed Bd.named) (name_of_methodNamed Bd.named Bd.method).1 hZ (Stand.of_body Bd) (by rw [← hh, Bd.state]; rfl) (fun v U L q f => ⟨v, L, rfl, q, f⟩)
theorem own_cast {g g' : JFrame} (q : g = g') (k : own_End p e below P (T.setTop g')) : own_End p e below P (T.setTop g) := q ▸ k
theorem own_retI (X : Stand p l e R s m args below meth c T locs cells slots) (hx : p.tables.exec = Jvm.exec) (hlk : meth.locks = false) {kc ks : Nat} {Q : Option Value → Heap → List Loc → Prop} (hP : own_Ok Q s kc ks P)
    {pc : Nat} {Ls : Array Slot} {z : Int32} {rest : List Value} (hret : meth.sig.returnType = some .int) (hd : decode c.code pc = .ok (.ireturn, 1)) (h1 : cells ≤ kc) (h2 : slots ≤ ks) (hq : Q (some (.int z)) T.heap locs) : own_End p e below P (T.setTop (mkF m pc Ls (.int z :: rest))) := by
  obtain ⟨fs, hr, hrun, hended, hW, hsame⟩ := X.leave (v := some (.int z)) (fun h => by rw [hret] at h; cases h) hlk
  exact ⟨_, _, retI X hx hret hd hr, hrun, hended, hP _ _ locs hq ⟨⟨_, rfl⟩, hW, hsame.mono h1 h2⟩⟩
theorem own_retN (X : Stand p l e R s m args below meth c T locs cells slots) (hx : p.tables.exec = Jvm.exec) (hlk : meth.locks = false) {kc ks : Nat} {Q : Option Value → Heap → List Loc → Prop} (hP : own_Ok Q s kc ks P)
    {pc : Nat} {Ls : Array Slot} {z : Int32} {t : FieldType} {rest : List Value} (ht : t = .boolean ∨ t = .byte ∨ t = .char ∨ t = .short) (hret : meth.sig.returnType = some t) (hd : decode c.code pc = .ok (.ireturn, 1)) (h1 : cells ≤ kc) (h2 : slots ≤ ks) (hq : Q (some (.int (nar t z))) T.heap locs) : own_End p e below P (T.setTop (mkF m pc Ls (.int z :: rest))) := by
  obtain ⟨fs, hr, hrun, hended, hW, hsame⟩ := X.leave (v := some (.int (nar t z))) (fun h => by rw [hret] at h; cases h) hlk
  exact ⟨_, _, retN X hx hret ht hd hr, hrun, hended, hP _ _ locs hq ⟨⟨_, rfl⟩, hW, hsame.mono h1 h2⟩⟩
theorem own_retL (X : Stand p l e R s m args below meth c T locs cells slots) (hx : p.tables.exec = Jvm.exec) (hlk : meth.locks = false) {kc ks : Nat} {Q : Option Value → Heap → List Loc → Prop} (hP : own_Ok Q s kc ks P)
    {pc : Nat} {Ls : Array Slot} {z : Int64} {rest : List Value} (hret : meth.sig.returnType = some .long) (hd : decode c.code pc = .ok (.lreturn, 1)) (h1 : cells ≤ kc) (h2 : slots ≤ ks) (hq : Q (some (.long z)) T.heap locs) : own_End p e below P (T.setTop (mkF m pc Ls (.long z :: rest))) := by
  obtain ⟨fs, hr, hrun, hended, hW, hsame⟩ := X.leave (v := some (.long z)) (fun h => by rw [hret] at h; cases h) hlk
  exact ⟨_, _, retOut X hx hret rfl (Or.inr (Or.inl ⟨rfl, rfl, z, rfl⟩)) hd hr, hrun, hended, hP _ _ locs hq ⟨⟨_, rfl⟩, hW, hsame.mono h1 h2⟩⟩
theorem own_retR (X : Stand p l e R s m args below meth c T locs cells slots) (hx : p.tables.exec = Jvm.exec) (hlk : meth.locks = false) {kc ks : Nat} {Q : Option Value → Heap → List Loc → Prop} (hP : own_Ok Q s kc ks P)
    {pc : Nat} {Ls : Array Slot} {w : Value} {t : FieldType} {rest : List Value} (hw : w.isRef = true) (ht : t.isReference = true) (hret : meth.sig.returnType = some t) (hd : decode c.code pc = .ok (.areturn, 1)) (h1 : cells ≤ kc) (h2 : slots ≤ ks) (hq : Q (some w) T.heap locs) : own_End p e below P (T.setTop (mkF m pc Ls (w :: rest))) := by
  obtain ⟨fs, hr, hrun, hended, hW, hsame⟩ := X.leave (v := some w) (fun h => by rw [hret] at h; cases h) hlk
  have hn : narrow t w = w := by rcases ref_cases hw with rfl | ⟨a, rfl⟩ <;> cases t <;> rfl
  exact ⟨_, _, retOut X hx hret hn (Or.inr (Or.inr (Or.inr (Or.inr ⟨rfl, ht, hw⟩)))) hd hr, hrun, hended, hP _ _ locs hq ⟨⟨_, rfl⟩, hW, hsame.mono h1 h2⟩⟩
theorem own_retV (X : Stand p l e R s m args below meth c T locs cells slots) (hx : p.tables.exec = Jvm.exec) (hlk : meth.locks = false) {kc ks : Nat} {Q : Option Value → Heap → List Loc → Prop} (hP : own_Ok Q s kc ks P)
    {pc : Nat} {Ls : Array Slot} (hret : meth.sig.returnType = none) (hd : decode c.code pc = .ok (.return_, 1)) (h1 : cells ≤ kc) (h2 : slots ≤ ks) (hq : Q none T.heap locs) : own_End p e below P (T.setTop (mkF m pc Ls [])) := by
  obtain ⟨fs, hr, hrun, hended, hW, hsame⟩ := X.leave (v := none) (fun _ => rfl) hlk
  exact ⟨_, _, X.returnOut hx hret hd hr, hrun, hended, hP _ _ locs hq ⟨⟨_, rfl⟩, hW, hsame.mono h1 h2⟩⟩
theorem own_callS (X : Stand p l e R s m args below meth c T locs cells slots) (hx : p.tables.exec = Jvm.exec) (hZ : Z.Warmed39 s.vm) {own : String} {index : Nat} {y : MethodName} {bytes : ByteArray} {maxL : Nat} {rt : Option FieldType} {rm : Room} {as' : Array Value} {Q : Option Value → Heap → List Loc → Prop}
    (hown : s.vm.findClass own = some m.cls) (w1 : (Jvm.Cond.methodLink own index y).before a0 Z = true) (w2 : (Jvm.Cond.static y).before a0 Z = true) (w3 : (Jvm.Cond.initialized y.cls).before a0 Z = true) (w4 : (Jvm.Cond.code y bytes maxL rt).before a0 Z = true) (hy : y.cls ≠ "java/lang/invoke/MethodHandle" ∧ y.cls ≠ "java/lang/invoke/VarHandle")
    (hM : own_Met l Z y bytes maxL rt [] rm as' h Q) (W : Nat) (hf : rm.frames + 1 ≤ R.frames) (hl : W + (maxL + 11) + rm.locals ≤ R.locals) (eT : T.heap = h) (hc : cells + rm.cells ≤ R.cells) (hs : slots + rm.slots ≤ R.slots)
    {g : JFrame} (hg : g.method = m) (hsize : g.locals.size = c.maxLocals) {argsL rest : List Value} (ha : argsL.toArray = as') (hlen : ∀ sig, parseMethodDescriptor y.desc = some sig → argsL.length = sig.parameters.length) (hstack : g.stack = argsL.reverse ++ rest) (hW : 2 * g.monitorRoom + (rest.map fun v => v.category).sum ≤ W) (hdg : decode c.code g.pc = .ok (.invokestatic index, 3))
    (k : ∀ v T' L, Stand p l e R s m args below meth c T' (locs ++ L) (cells + rm.cells) (slots + rm.slots) → Q v T'.heap L → own_End p e below P (T'.setTop { g with pc := g.pc + 3, stack := v.toList ++ rest })) : own_End p e below P (T.setTop g) := by
  obtain ⟨v, vm₁, ⟨T', L', k', n'⟩, -, X', ⟨L, hQ, h1, h2, h3⟩, st⟩ := Jvm.LawKit.callS X hx hown (mvT hZ w1) (mvT hZ w2) (mvT hZ w3) (mvT hZ w4) hy (backOf (W := W) hM hZ w4 w3 hf hl) hg hsize hlen hstack hW hdg (fun _ _ => ⟨ha, eT, hc, hs⟩)
  dsimp only [Pt.U, Pt.locs, Pt.cells, Pt.slots] at X' h1 h2 h3 st hQ
  subst h1 h2 h3
  exact own_st st (k v T' L X' hQ)
theorem own_callI (X : Stand p l e R s m args below meth c T locs cells slots) (hx : p.tables.exec = Jvm.exec) (hZ : Z.Warmed39 s.vm) {own : String} {index : Nat} {y : MethodName} {bytes : ByteArray} {maxL : Nat} {rm : Room} {as' : Array Value} {Q : Option Value → Heap → List Loc → Prop}
    (hy1 : y.name = "<init>") (hown : s.vm.findClass own = some m.cls) (w1 : (Jvm.Cond.methodLink own index y).before a0 Z = true) (w2 : (Jvm.Cond.instanceMethod y).before a0 Z = true) (w3 : (Jvm.Cond.initialized y.cls).before a0 Z = true) (w4 : (Jvm.Cond.code y bytes maxL none).before a0 Z = true) (hy : y.cls ≠ "java/lang/invoke/MethodHandle" ∧ y.cls ≠ "java/lang/invoke/VarHandle")
    (hM : own_Met l Z y bytes maxL none [] rm as' h Q) (W : Nat) (hf : rm.frames + 1 ≤ R.frames) (hl : W + (maxL + 11) + rm.locals ≤ R.locals) (eT : T.heap = h) (hc : cells + rm.cells ≤ R.cells) (hs : slots + rm.slots ≤ R.slots)
    {g : JFrame} (hg : g.method = m) (hsize : g.locals.size = c.maxLocals) {a : Addr} {argsL rest : List Value} (ha : (Value.ref a :: argsL).toArray = as') (hlen : ∀ sig, parseMethodDescriptor y.desc = some sig → argsL.length = sig.parameters.length) (hstack : g.stack = argsL.reverse ++ .ref a :: rest) (hW : 2 * g.monitorRoom + (rest.map fun v => v.category).sum ≤ W) (hdg : decode c.code g.pc = .ok (.invokespecial index, 3))
    (k : ∀ v T' L, Stand p l e R s m args below meth c T' (locs ++ L) (cells + rm.cells) (slots + rm.slots) → Q v T'.heap L → own_End p e below P (T'.setTop { g with pc := g.pc + 3, stack := v.toList ++ rest })) : own_End p e below P (T.setTop g) := by
  obtain ⟨v, vm₁, ⟨T', L', k', n'⟩, -, X', ⟨L, hQ, h1, h2, h3⟩, st⟩ := X.specialBack hx hy1 hown (mvT hZ w1) (mvT hZ w2) (mvT hZ w4) hy (backOf (W := W) hM hZ w4 w3 hf hl) hg hsize (Steps.refl _) hlen hstack hW hdg (fun _ _ => ⟨ha, eT, hc, hs⟩)
  dsimp only [Pt.U, Pt.locs, Pt.cells, Pt.slots] at X' h1 h2 h3 st hQ
  subst h1 h2 h3
  exact own_tr st (k v T' L X' hQ)
theorem own_callV (X : Stand p l e R s m args below meth c T locs cells slots) (hx : p.tables.exec = Jvm.exec) (hZ : Z.Warmed39 s.vm) {own C : String} {index : Nat} {y z : MethodName} {bytes : ByteArray} {maxL : Nat} {rt : Option FieldType} {rm : Room} {as' : Array Value} {Q : Option Value → Heap → List Loc → Prop}
    (hown : s.vm.findClass own = some m.cls) (w1 : (Jvm.Cond.methodLink own index y).before a0 Z = true) (w2 : (Jvm.Cond.declares y).before a0 Z = true) (hnf : NotFace s y) (w5 : (Jvm.Cond.selects C y z).before a0 Z = true) (w6 : (Jvm.Cond.instanceMethod z).before a0 Z = true) (w3 : (Jvm.Cond.initialized z.cls).before a0 Z = true) (w4 : (Jvm.Cond.code z bytes maxL rt).before a0 Z = true) (hy : y.cls ≠ "java/lang/invoke/MethodHandle" ∧ y.cls ≠ "java/lang/invoke/VarHandle")
    {a : Addr} (E : Exa Z h a C) (hM : own_Met l Z z bytes maxL rt [] rm as' h Q) (W : Nat) (hf : rm.frames + 1 ≤ R.frames) (hl : W + (maxL + 11) + rm.locals ≤ R.locals) (eT : T.heap = h) (hc : cells + rm.cells ≤ R.cells) (hs : slots + rm.slots ≤ R.slots)
    {g : JFrame} (hg : g.method = m) (hsize : g.locals.size = c.maxLocals) {argsL rest : List Value} (ha : (Value.ref a :: argsL).toArray = as') (hlen : ∀ sig, parseMethodDescriptor y.desc = some sig → argsL.length = sig.parameters.length) (hstack : g.stack = argsL.reverse ++ .ref a :: rest) (hW : 2 * g.monitorRoom + (rest.map fun v => v.category).sum ≤ W) (hdg : decode c.code g.pc = .ok (.invokevirtual index, 3))
    (k : ∀ v T' L, Stand p l e R s m args below meth c T' (locs ++ L) (cells + rm.cells) (slots + rm.slots) → Q v T'.heap L → own_End p e below P (T'.setTop { g with pc := g.pc + 3, stack := v.toList ++ rest })) : own_End p e below P (T.setTop g) := by
  obtain ⟨cB, kB, q1, q2, q3⟩ := isOf hZ eT E
  obtain ⟨v, vm₁, ⟨T', L', k', n'⟩, -, X', ⟨L, hQ, h1, h2, h3⟩, st⟩ := X.virtualBack hx (y := y) (z := z) hown (mvT hZ w1) (mvT hZ w2) hnf (mvT hZ w5) (mvT hZ w6) hy (backOf (W := W) hM hZ w4 w3 hf hl) q1 q3 hg hsize (Steps.refl _) hlen hstack hW hdg (fun _ _ => ⟨ha, eT, hc, hs⟩)
  dsimp only [Pt.U, Pt.locs, Pt.cells, Pt.slots] at X' h1 h2 h3 st hQ
  subst h1 h2 h3
  exact own_tr st (k v T' L X' hQ)
theorem own_callU (X : Stand p l e R s m args below meth c T locs cells slots) (hx : p.tables.exec = Jvm.exec) (hZ : Z.Warmed39 s.vm) {own C owner : String} {index : Nat} {x y : MethodName} {bytes : ByteArray} {maxL : Nat} {rt : Option FieldType} {rm : Room} {as' : Array Value} {Q : Option Value → Heap → List Loc → Prop}
    (hown : s.vm.findClass own = some m.cls) (w1 : (Jvm.Cond.methodLink own index x).before a0 Z = true) (w2 : (Jvm.Cond.sameMethod x.cls owner x.name x.desc).before a0 Z = true) (w7 : (Jvm.Cond.declares ⟨owner, x.name, x.desc⟩).before a0 Z = true) (hy : owner ≠ "java/lang/invoke/MethodHandle" ∧ owner ≠ "java/lang/invoke/VarHandle") (w5 : (Jvm.Cond.selects C x y).before a0 Z = true) (w6 : (Jvm.Cond.instanceMethod y).before a0 Z = true) (w3 : (Jvm.Cond.initialized y.cls).before a0 Z = true) (w4 : (Jvm.Cond.code y bytes maxL rt).before a0 Z = true)
    {a : Addr} (E : Exa Z h a C) (hM : own_Met l Z y bytes maxL rt [] rm as' h Q) (W : Nat) (hf : rm.frames + 1 ≤ R.frames) (hl : W + (maxL + 11) + rm.locals ≤ R.locals) (eT : T.heap = h) (hc : cells + rm.cells ≤ R.cells) (hs : slots + rm.slots ≤ R.slots)
    {g : JFrame} (hg : g.method = m) (hsize : g.locals.size = c.maxLocals) {argsL rest : List Value} (ha : (Value.ref a :: argsL).toArray = as') (hlen : ∀ sig, parseMethodDescriptor x.desc = some sig → argsL.length = sig.parameters.length) (hstack : g.stack = argsL.reverse ++ .ref a :: rest) (hW : 2 * g.monitorRoom + (rest.map fun v => v.category).sum ≤ W) (hdg : decode c.code g.pc = .ok (.invokevirtual index, 3))
    (k : ∀ v T' L, Stand p l e R s m args below meth c T' (locs ++ L) (cells + rm.cells) (slots + rm.slots) → Q v T'.heap L → own_End p e below P (T'.setTop { g with pc := g.pc + 3, stack := v.toList ++ rest })) : own_End p e below P (T.setTop g) := by
  obtain ⟨cB, kB, q1, q2, q3⟩ := isOf hZ eT E
  obtain ⟨v, vm₁, ⟨T', L', k', n'⟩, -, X', ⟨L, hQ, h1, h2, h3⟩, st⟩ := X.virtualBackUp hx (x := x) (y := y) hown (mvT hZ w1) (mvT hZ w2) (mvT hZ w7) hy (mvT hZ w5) (mvT hZ w6) (backOf (W := W) hM hZ w4 w3 hf hl) q1 q3 hg hsize (Steps.refl _) hlen hstack hW hdg (fun _ _ => ⟨ha, eT, hc, hs⟩)
  dsimp only [Pt.U, Pt.locs, Pt.cells, Pt.slots] at X' h1 h2 h3 st hQ
  subst h1 h2 h3
  exact own_tr st (k v T' L X' hQ)
theorem own_lt {x y : Int64} : lcmpW x y < 0 ↔ x < y := by rw [lcW]; exact lc_lt x y
theorem own_gt {x y : Int64} : 0 < lcmpW x y ↔ y < x := by rw [lcW]; exact lc_gt x y
theorem own_eq {x y : Int64} : lcmpW x y = 0 ↔ x = y := by rw [lcW]; exact lc_eq x y
theorem own_eqInt {first : State} {o : Option Outcome} {idx : List Nat} {t : Term} {k : Int32} (q : (Jvm.Cond.eq t (.int k)).value args first o s idx = some true) : t.eval args first o idx s = some (.int k) := by
  obtain ⟨x, y, e1, e2, k1, k2⟩ := cmp_v (Or.inl q)
  rw [Term.int_eval] at e2
  cases e2
  obtain ⟨z, rfl⟩ := k2
  rw [e1, gotT (Cond.eq_ints e1 (Term.int_eval k)) q]
end Own
theorem own_d1_0 : decode prog_18_method_1_code 0 = .ok (.aload_n 0, 1) := by decide +kernel
theorem own_d1_1 : decode prog_18_method_1_code 1 = .ok (.invokespecial 1, 3) := by decide +kernel
theorem own_d1_4 : decode prog_18_method_1_code 4 = .ok (.aload_n 0, 1) := by decide +kernel
theorem own_d1_5 : decode prog_18_method_1_code 5 = .ok (.iload_n 1, 1) := by decide +kernel
theorem own_d1_6 : decode prog_18_method_1_code 6 = .ok (.putfield 7, 3) := by decide +kernel
theorem own_d1_9 : decode prog_18_method_1_code 9 = .ok (.aload_n 0, 1) := by decide +kernel
theorem own_d1_10 : decode prog_18_method_1_code 10 = .ok (.iload_n 2, 1) := by decide +kernel
theorem own_d1_11 : decode prog_18_method_1_code 11 = .ok (.putfield 13, 3) := by decide +kernel
theorem own_d1_14 : decode prog_18_method_1_code 14 = .ok (.return_, 1) := by decide +kernel
theorem own_ef1 (m : MethodId) (o0 : Addr) (p1 : Int32) (p2 : Int32) : entryFrame m #[(.ref o0), (.int p1), (.int p2)] 3 = mkF m 0 #[.val (.ref o0), .val (.int p1), .val (.int p2)] [] := by first | (simp [entryFrame, mkF, argsToLocals, Value.category]; done) | rfl
theorem own_pn_com_example_weiche_weiche_net_Guard : plainName "com/example/weiche/weiche/net/Guard" = true := by first | (simp [plainName, overriddenIn]; done) | decide +kernel
set_option maxRecDepth 65536 in
set_option maxHeartbeats 40000000 in
theorem own_m1 (l : Launch) (Z : State) (a0 : Array Value) (hw : ∀ d ∈ tables_1, d.before a0 Z = true) (ws : List Jvm.Cond) (o0 : Addr) (p1 : Int32) (p2 : Int32)  (h0 : Heap) (n0 : Nat) (Z0 : n0 ≤ h0.size) (E_o0 : Exa Z h0 o0 "com/example/weiche/weiche/net/Guard") (F_o0_condition : Fld Z h0 o0 "com/example/weiche/weiche/net/Guard" "condition" "I" (.int (0 : Int32))) (F_o0_negated : Fld Z h0 o0 "com/example/weiche/weiche/net/Guard" "negated" "Z" (.int (0 : Int32))) (low_o0 : n0 ≤ o0) :
    own_Met l Z (⟨"com/example/weiche/weiche/net/Guard", "<init>", "(IZ)V"⟩ : MethodName) prog_18_method_1_code 3 none ws ({ frames := 1, cells := 0, slots := 0, locals := 12 } : Room) #[(.ref o0), (.int p1), (.int p2)] h0 (fun (v : Option Value) (h : Heap) (L : List Loc) => v = none ∧ Fr n0 L ∧ Keep h0 h [o0] ∧ Exa Z h o0 "com/example/weiche/weiche/net/Guard" ∧ Fld Z h o0 "com/example/weiche/weiche/net/Guard" "condition" "I" (.int p1) ∧ Fld Z h o0 "com/example/weiche/weiche/net/Guard" "negated" "Z" (.int (nar .boolean p2))) := by
  refine own_enter (plainFor_of_name own_pn_com_example_weiche_weiche_net_Guard) ?_
  intro p e s m below meth c s₁ P hx hby hml hrt hlk hown hnm hZ X0 e0 hP
  have N0 := Fr.nil n0
  have K0 := Keep.refl h0 [o0]
  have hml' : c.maxLocals = 3 := hml
  refine own_cast (own_ef1 m o0 p1 p2) ?_
  show own_End p e below P (s₁.setTop (mkF m 0 #[.val (.ref o0), .val (.int p1), .val (.int p2)] []))
  refine own_st (fun _ => XS.aloadN X0.here hx rfl (hb hby own_d1_0) rfl rfl) ?_
  show own_End p e below P (s₁.setTop (mkF m 1 #[.val (.ref o0), .val (.int p1), .val (.int p2)] [(.ref o0)]))
  obtain ⟨T1, X1, e1, st1⟩ := initO X0 hx hZ hown (hw _ (List.mem_of_getElem? (i := 6) rfl)) (hw _ (List.mem_of_getElem? (i := 7) rfl)) (hw _ (List.mem_of_getElem? (i := 8) rfl)) e0 (g := (mkF m 1 #[.val (.ref o0), .val (.int p1), .val (.int p2)] [(.ref o0)])) rfl (by rw [hml']; rfl) rfl (hb hby own_d1_1) (by decide) (W := 0) (by show 2 * 0 + _ ≤ _; exact Nat.le_of_eq rfl) (by decide)
  refine own_st (fun _ => st1 _) ?_
  show own_End p e below P (T1.setTop (mkF m 4 #[.val (.ref o0), .val (.int p1), .val (.int p2)] []))
  refine own_st (fun _ => XS.aloadN X1.here hx rfl (hb hby own_d1_4) rfl rfl) ?_
  show own_End p e below P (T1.setTop (mkF m 5 #[.val (.ref o0), .val (.int p1), .val (.int p2)] [(.ref o0)]))
  refine own_st (fun _ => XS.iloadN X1.here hx rfl (hb hby own_d1_5) rfl) ?_
  show own_End p e below P (T1.setTop (mkF m 6 #[.val (.ref o0), .val (.int p1), .val (.int p2)] [(.int p1), (.ref o0)]))
  obtain ⟨T2, h2, X2, e2, W2, st2⟩ := putF X1 hx hZ hown (host := "") (Or.inl (hw _ (List.mem_of_getElem? (i := 9) rfl))) Via.refl e1 F_o0_condition E_o0 (Or.inr ⟨(hw _ (List.mem_of_getElem? (i := 10) rfl)), rfl, hnm⟩) (hw _ (List.mem_of_getElem? (i := 1) rfl)) (ty := .int) (by decide) rfl rfl (g := (mkF m 6 #[.val (.ref o0), .val (.int p1), .val (.int p2)] [(.int p1), (.ref o0)])) rfl rfl (hb hby own_d1_6)
  have N2 := Fr.snoc X2 N0 low_o0
  have K2 := Keep.wr K0 W2 (Or.inl (List.mem_of_getElem? (i := 0) rfl))
  have F2 := F_o0_condition.same W2
  refine own_st (fun _ => st2 _) ?_
  show own_End p e below P (T2.setTop (mkF m 9 #[.val (.ref o0), .val (.int p1), .val (.int p2)] []))
  refine own_st (fun _ => XS.aloadN X2.here hx rfl (hb hby own_d1_9) rfl rfl) ?_
  show own_End p e below P (T2.setTop (mkF m 10 #[.val (.ref o0), .val (.int p1), .val (.int p2)] [(.ref o0)]))
  refine own_st (fun _ => XS.iloadN X2.here hx rfl (hb hby own_d1_10) rfl) ?_
  show own_End p e below P (T2.setTop (mkF m 11 #[.val (.ref o0), .val (.int p1), .val (.int p2)] [(.int p2), (.ref o0)]))
  have G3 := (F_o0_negated.other W2 (Or.inr (slot_ne (Or.inr (hw _ (List.mem_of_getElem? (i := 12) rfl))) (Or.inr (hw _ (List.mem_of_getElem? (i := 10) rfl))) (by decide) (t := .boolean) (t' := .int) (by decide) (by decide))))
  have G4 := (E_o0.wr W2)
  obtain ⟨T5, h5, X5, e5, W5, st5⟩ := putFN X2 hx hZ hown (hw _ (List.mem_of_getElem? (i := 11) rfl)) Via.refl e2 G3 G4 (Or.inr ⟨(hw _ (List.mem_of_getElem? (i := 12) rfl)), rfl, hnm⟩) (hw _ (List.mem_of_getElem? (i := 1) rfl)) (ty := .boolean) (v' := (.int (nar .boolean p2))) (by decide) rfl (fits_nar_bool _) (g := (mkF m 11 #[.val (.ref o0), .val (.int p1), .val (.int p2)] [(.int p2), (.ref o0)])) rfl rfl (hb hby own_d1_11)
  have N5 := Fr.snoc X5 N2 low_o0
  have K5 := Keep.wr K2 W5 (Or.inl (List.mem_of_getElem? (i := 0) rfl))
  have F5 := G3.same W5
  refine own_st (fun _ => st5 _) ?_
  show own_End p e below P (T5.setTop (mkF m 14 #[.val (.ref o0), .val (.int p1), .val (.int p2)] []))
  have G6 := (G4.wr W5)
  have G7 := (F2.other W5 (Or.inr (slot_ne (Or.inr (hw _ (List.mem_of_getElem? (i := 10) rfl))) (Or.inr (hw _ (List.mem_of_getElem? (i := 12) rfl))) (by decide) (t := .int) (t' := .boolean) (by decide) (by decide))))
  have hfin : ((fun (v : Option Value) (h : Heap) (L : List Loc) => v = none ∧ Fr n0 L ∧ Keep h0 h [o0] ∧ Exa Z h o0 "com/example/weiche/weiche/net/Guard" ∧ Fld Z h o0 "com/example/weiche/weiche/net/Guard" "condition" "I" (.int p1) ∧ Fld Z h o0 "com/example/weiche/weiche/net/Guard" "negated" "Z" (.int (nar .boolean p2)))) none h5 _ := ⟨rfl, N5, K5, G6, G7, F5⟩
  refine own_retV X5 hx hlk hP hrt (hb hby own_d1_14) (by decide) (by decide) ?_
  rw [e5]; exact hfin
theorem own_d2_0 : decode prog_18_method_4_code 0 = .ok (.iload_n 1, 1) := by decide +kernel
theorem own_d2_1 : decode prog_18_method_4_code 1 = .ok (.aload_n 0, 1) := by decide +kernel
theorem own_d2_2 : decode prog_18_method_4_code 2 = .ok (.getfield 13, 3) := by decide +kernel
theorem own_d2_5 : decode prog_18_method_4_code 5 = .ok (.if_icmp .eq 7, 3) := by decide +kernel
theorem own_d2_12 : decode prog_18_method_4_code 12 = .ok (.iconst 0, 1) := by decide +kernel
theorem own_d2_13 : decode prog_18_method_4_code 13 = .ok (.ireturn, 1) := by decide +kernel
theorem own_d2_8 : decode prog_18_method_4_code 8 = .ok (.iconst 1, 1) := by decide +kernel
theorem own_d2_9 : decode prog_18_method_4_code 9 = .ok (.goto 4, 3) := by decide +kernel
theorem own_ef2 (m : MethodId) (o0 : Addr) (p1 : Int32) : entryFrame m #[(.ref o0), (.int p1)] 2 = mkF m 0 #[.val (.ref o0), .val (.int p1)] [] := by first | (simp [entryFrame, mkF, argsToLocals, Value.category]; done) | rfl
def own_f2 (p1 : Int32) (w_o0_negated : Int32) : Int32 := (if p1 = w_o0_negated then (0 : Int32) else (1 : Int32))
set_option maxRecDepth 65536 in
set_option maxHeartbeats 40000000 in
theorem own_m2 (l : Launch) (Z : State) (a0 : Array Value) (hw : ∀ d ∈ tables_1, d.before a0 Z = true) (ws : List Jvm.Cond) (o0 : Addr) (p1 : Int32) (w_o0_negated : Int32) (h0 : Heap) (n0 : Nat) (Z0 : n0 ≤ h0.size) (F_o0_negated : Fld Z h0 o0 "com/example/weiche/weiche/net/Guard" "negated" "Z" (.int w_o0_negated)) :
    own_Met l Z (⟨"com/example/weiche/weiche/net/Guard", "admits", "(Z)Z"⟩ : MethodName) prog_18_method_4_code 2 (some .boolean) ws ({ frames := 0, cells := 0, slots := 0, locals := 0 } : Room) #[(.ref o0), (.int p1)] h0 (fun (v : Option Value) (h : Heap) (L : List Loc) => v = some (.int (own_f2 p1 w_o0_negated)) ∧ Fr n0 L ∧ h = h0) := by
  refine own_enter (plainFor_of_name own_pn_com_example_weiche_weiche_net_Guard) ?_
  intro p e s m below meth c s₁ P hx hby hml hrt hlk hown hnm hZ X0 e0 hP
  have N0 := Fr.nil n0
  have K0 := Keep.refl h0 []
  have hml' : c.maxLocals = 2 := hml
  refine own_cast (own_ef2 m o0 p1) ?_
  show own_End p e below P (s₁.setTop (mkF m 0 #[.val (.ref o0), .val (.int p1)] []))
  refine own_st (fun _ => XS.iloadN X0.here hx rfl (hb hby own_d2_0) rfl) ?_
  show own_End p e below P (s₁.setTop (mkF m 1 #[.val (.ref o0), .val (.int p1)] [(.int p1)]))
  refine own_st (fun _ => XS.aloadN X0.here hx rfl (hb hby own_d2_1) rfl rfl) ?_
  show own_End p e below P (s₁.setTop (mkF m 2 #[.val (.ref o0), .val (.int p1)] [(.ref o0), (.int p1)]))
  obtain ⟨T1, X1, e1, st1⟩ := getF X0 hx hZ hown (host := "") (Or.inl (hw _ (List.mem_of_getElem? (i := 11) rfl))) Via.refl e0 F_o0_negated (g := (mkF m 2 #[.val (.ref o0), .val (.int p1)] [(.ref o0), (.int p1)])) rfl rfl (hb hby own_d2_2)
  refine own_st (fun _ => st1 _) ?_
  show own_End p e below P (T1.setTop (mkF m 5 #[.val (.ref o0), .val (.int p1)] [(.int w_o0_negated), (.int p1)]))
  by_cases hc2 : p1 = w_o0_negated
  · refine own_st (fun _ => XS.icmpYes X1.here hx rfl (pc0 := 5) (pc' := 12) rfl (hb hby own_d2_5) rfl (teq hc2).1 (by decide) (by decide)) ?_
    show own_End p e below P (T1.setTop (mkF m 12 #[.val (.ref o0), .val (.int p1)] []))
    refine own_st (fun _ => XS.iconst X1.here hx rfl (hb hby own_d2_12)) ?_
    show own_End p e below P (T1.setTop (mkF m 13 #[.val (.ref o0), .val (.int p1)] [(.int (0 : Int32))]))
    refine own_retN X1 hx hlk hP (t := .boolean) (by simp) hrt (hb hby own_d2_13) (by decide) (by decide) ⟨congrArg (fun z => some (Value.int z)) ?_, N0, e1⟩
    exact (show own_f2 p1 w_o0_negated = (0 : Int32) from (if_pos hc2).trans (rfl)).symm
  · refine own_st (fun _ => XS.icmpNo X1.here hx rfl (hb hby own_d2_5) rfl (feq hc2).1) ?_
    show own_End p e below P (T1.setTop (mkF m 8 #[.val (.ref o0), .val (.int p1)] []))
    refine own_st (fun _ => XS.iconst X1.here hx rfl (hb hby own_d2_8)) ?_
    show own_End p e below P (T1.setTop (mkF m 9 #[.val (.ref o0), .val (.int p1)] [(.int (1 : Int32))]))
    refine own_st (fun _ => XS.goto X1.here hx rfl (pc0 := 9) (pc' := 13) rfl (hb hby own_d2_9) (by decide) (by decide)) ?_
    show own_End p e below P (T1.setTop (mkF m 13 #[.val (.ref o0), .val (.int p1)] [(.int (1 : Int32))]))
    refine own_retN X1 hx hlk hP (t := .boolean) (by simp) hrt (hb hby own_d2_13) (by decide) (by decide) ⟨congrArg (fun z => some (Value.int z)) ?_, N0, e1⟩
    exact (show own_f2 p1 w_o0_negated = (1 : Int32) from (if_neg hc2).trans (rfl)).symm
theorem own_d3_0 : decode prog_18_method_2_code 0 = .ok (.aload_n 0, 1) := by decide +kernel
theorem own_d3_1 : decode prog_18_method_2_code 1 = .ok (.getfield 7, 3) := by decide +kernel
theorem own_d3_4 : decode prog_18_method_2_code 4 = .ok (.ireturn, 1) := by decide +kernel
theorem own_ef3 (m : MethodId) (o0 : Addr) : entryFrame m #[(.ref o0)] 1 = mkF m 0 #[.val (.ref o0)] [] := by first | (simp [entryFrame, mkF, argsToLocals, Value.category]; done) | rfl
def own_f3 (w_o0_condition : Int32) : Int32 := w_o0_condition
set_option maxRecDepth 65536 in
set_option maxHeartbeats 40000000 in
theorem own_m3 (l : Launch) (Z : State) (a0 : Array Value) (hw : ∀ d ∈ tables_1, d.before a0 Z = true) (ws : List Jvm.Cond) (o0 : Addr) (w_o0_condition : Int32) (h0 : Heap) (n0 : Nat) (Z0 : n0 ≤ h0.size) (F_o0_condition : Fld Z h0 o0 "com/example/weiche/weiche/net/Guard" "condition" "I" (.int w_o0_condition)) :
    own_Met l Z (⟨"com/example/weiche/weiche/net/Guard", "condition", "()I"⟩ : MethodName) prog_18_method_2_code 1 (some .int) ws ({ frames := 0, cells := 0, slots := 0, locals := 0 } : Room) #[(.ref o0)] h0 (fun (v : Option Value) (h : Heap) (L : List Loc) => v = some (.int (own_f3 w_o0_condition)) ∧ Fr n0 L ∧ h = h0) := by
  refine own_enter (plainFor_of_name own_pn_com_example_weiche_weiche_net_Guard) ?_
  intro p e s m below meth c s₁ P hx hby hml hrt hlk hown hnm hZ X0 e0 hP
  have N0 := Fr.nil n0
  have K0 := Keep.refl h0 []
  have hml' : c.maxLocals = 1 := hml
  refine own_cast (own_ef3 m o0) ?_
  show own_End p e below P (s₁.setTop (mkF m 0 #[.val (.ref o0)] []))
  refine own_st (fun _ => XS.aloadN X0.here hx rfl (hb hby own_d3_0) rfl rfl) ?_
  show own_End p e below P (s₁.setTop (mkF m 1 #[.val (.ref o0)] [(.ref o0)]))
  obtain ⟨T1, X1, e1, st1⟩ := getF X0 hx hZ hown (host := "") (Or.inl (hw _ (List.mem_of_getElem? (i := 9) rfl))) Via.refl e0 F_o0_condition (g := (mkF m 1 #[.val (.ref o0)] [(.ref o0)])) rfl rfl (hb hby own_d3_1)
  refine own_st (fun _ => st1 _) ?_
  show own_End p e below P (T1.setTop (mkF m 4 #[.val (.ref o0)] [(.int w_o0_condition)]))
  refine own_retI X1 hx hlk hP hrt (hb hby own_d3_4) (by decide) (by decide) ⟨congrArg (fun z => some (Value.int z)) ?_, N0, e1⟩
  exact (show own_f3 w_o0_condition = w_o0_condition from rfl).symm
theorem own_pd_IZ_V_330 : parseMethodDescriptor "(IZ)V" = some ⟨[.int, .boolean], none⟩ := by decide +kernel
theorem own_pd_Z_Z_261 : parseMethodDescriptor "(Z)Z" = some ⟨[.boolean], some .boolean⟩ := by decide +kernel
theorem own_pd_I_154 : parseMethodDescriptor "()I" = some ⟨[], some .int⟩ := by decide +kernel
theorem own_ef0 (m : MethodId) (p0 : Int32) (p1 : Int32) : entryFrame m #[(.int p0), (.int p1)] maxLocals = mkF m 0 #[.val (.int p0), .val (.int p1), .unset, .unset, .unset, .unset] [] := by first | (simp [entryFrame, mkF, argsToLocals, Value.category, maxLocals]; done) | rfl
theorem own_pn_com_example_weiche_weiche_net_GuardAdmitsPinLaw : plainName "com/example/weiche/weiche/net/GuardAdmitsPinLaw" = true := by first | (simp [plainName, overriddenIn]; done) | decide +kernel
set_option maxRecDepth 65536 in
set_option maxHeartbeats 40000000 in
theorem own_m0 (l : Launch) (Z : State) (a0 : Array Value) (hw : ∀ d ∈ tables_1, d.before a0 Z = true) (ws : List Jvm.Cond) (p0 : Int32) (p1 : Int32)  (h0 : Heap) (n0 : Nat) (Z0 : n0 ≤ h0.size)  :
    own_Met l Z x code maxLocals ret ws room_1 #[(.int p0), (.int p1)] h0 (fun (v : Option Value) (h : Heap) (L : List Loc) => v = some (.int 1) ∧ Fr n0 L) := by
  refine own_enter (plainFor_of_name own_pn_com_example_weiche_weiche_net_GuardAdmitsPinLaw) ?_
  intro p e s m below meth c s₁ P hx hby hml hrt hlk hown hnm hZ X0 e0 hP
  have N0 := Fr.nil n0
  have K0 := Keep.refl h0 []
  have hml' : c.maxLocals = 6 := hml
  refine own_cast (own_ef0 m p0 p1) ?_
  show own_End p e below P (s₁.setTop (mkF m 0 #[.val (.int p0), .val (.int p1), .unset, .unset, .unset, .unset] []))
  refine own_st (fun _ => XS.iloadN X0.here hx rfl (hb hby at_0) rfl) ?_
  show own_End p e below P (s₁.setTop (mkF m 1 #[.val (.int p0), .val (.int p1), .unset, .unset, .unset, .unset] [(.int p1)]))
  refine own_st (fun _ => XS.iconst X0.here hx rfl (hb hby at_1)) ?_
  show own_End p e below P (s₁.setTop (mkF m 2 #[.val (.int p0), .val (.int p1), .unset, .unset, .unset, .unset] [(.int (1 : Int32)), (.int p1)]))
  refine own_st (fun _ => XS.iand X0.here hx rfl (hb hby at_2) rfl) ?_
  show own_End p e below P (s₁.setTop (mkF m 3 #[.val (.int p0), .val (.int p1), .unset, .unset, .unset, .unset] [(.int (p1 &&& (1 : Int32)))]))
  by_cases hc1 : (p1 &&& (1 : Int32)) = (0 : Int32)
  · refine own_st (fun _ => XS.ifYes X0.here hx rfl (pc0 := 3) (pc' := 10) rfl (hb hby at_3) rfl ((if0 _ _).trans (teq hc1).1) (by decide) (by decide)) ?_
    show own_End p e below P (s₁.setTop (mkF m 10 #[.val (.int p0), .val (.int p1), .unset, .unset, .unset, .unset] []))
    refine own_st (fun _ => XS.iconst X0.here hx rfl (hb hby at_10)) ?_
    show own_End p e below P (s₁.setTop (mkF m 11 #[.val (.int p0), .val (.int p1), .unset, .unset, .unset, .unset] [(.int (0 : Int32))]))
    refine own_st (fun _ => XS.istoreN X0.here hx rfl (hb hby at_11) rfl (l' := #[.val (.int p0), .val (.int p1), .val (.int (0 : Int32)), .unset, .unset, .unset]) rfl) ?_
    show own_End p e below P (s₁.setTop (mkF m 12 #[.val (.int p0), .val (.int p1), .val (.int (0 : Int32)), .unset, .unset, .unset] []))
    obtain ⟨T2, h2, X2, e2, E2, A2, D2, -, st2⟩ := newO X0 hx hZ hown (hw _ (List.mem_of_getElem? (i := 0) rfl)) (hw _ (List.mem_of_getElem? (i := 1) rfl)) (hw _ (List.mem_of_getElem? (i := 2) rfl)) e0 (g := (mkF m 12 #[.val (.int p0), .val (.int p1), .val (.int (0 : Int32)), .unset, .unset, .unset] [])) rfl (hb hby at_12) (by decide) (by decide)
    obtain ⟨b2, g2⟩ : ∃ z, z = h0.size := ⟨_, rfl⟩
    rw [← g2] at A2 D2 st2
    have low_b2 : n0 ≤ b2 := Nat.le_trans Z0 (Nat.le_of_eq g2.symm)
    have sz_b2 : h0.size ≤ b2 := Nat.le_trans K0.1 (Nat.le_of_eq g2.symm)
    have Z2 := Nat.le_trans Z0 E2.1
    have K2 := Keep.ext K0 E2
    have F_b2_condition : Fld Z h2 b2 "com/example/weiche/weiche/net/Guard" "condition" "I" (.int (0 : Int32)) := D2 (Or.inr (hw _ (List.mem_of_getElem? (i := 10) rfl))) (ty := .int) (by decide)
    have F_b2_negated : Fld Z h2 b2 "com/example/weiche/weiche/net/Guard" "negated" "Z" (.int (0 : Int32)) := D2 (Or.inr (hw _ (List.mem_of_getElem? (i := 12) rfl))) (ty := .boolean) (by decide)
    refine own_st (fun _ => st2 _) ?_
    show own_End p e below P (T2.setTop (mkF m 15 #[.val (.int p0), .val (.int p1), .val (.int (0 : Int32)), .unset, .unset, .unset] [(.ref b2)]))
    refine own_st (fun _ => XS.dup X2.here hx rfl (hb hby at_15) rfl rfl) ?_
    show own_End p e below P (T2.setTop (mkF m 16 #[.val (.int p0), .val (.int p1), .val (.int (0 : Int32)), .unset, .unset, .unset] [(.ref b2), (.ref b2)]))
    refine own_st (fun _ => XS.iloadN X2.here hx rfl (hb hby at_16) rfl) ?_
    show own_End p e below P (T2.setTop (mkF m 17 #[.val (.int p0), .val (.int p1), .val (.int (0 : Int32)), .unset, .unset, .unset] [(.int p0), (.ref b2), (.ref b2)]))
    refine own_st (fun _ => XS.iloadN X2.here hx rfl (hb hby at_17) rfl) ?_
    show own_End p e below P (T2.setTop (mkF m 18 #[.val (.int p0), .val (.int p1), .val (.int (0 : Int32)), .unset, .unset, .unset] [(.int (0 : Int32)), (.int p0), (.ref b2), (.ref b2)]))
    refine own_callI X2 hx hZ (y := (⟨"com/example/weiche/weiche/net/Guard", "<init>", "(IZ)V"⟩ : MethodName)) rfl hown (hw _ (List.mem_of_getElem? (i := 3) rfl)) (hw _ (List.mem_of_getElem? (i := 4) rfl)) (hw _ (List.mem_of_getElem? (i := 2) rfl)) (hw _ (List.mem_of_getElem? (i := 5) rfl)) (by decide) (own_m1 l Z a0 hw [] b2 p0 (0 : Int32)  h2 n0 Z2 A2 F_b2_condition F_b2_negated low_b2) 1 (by decide) (by decide) e2 (by decide) (by decide) (g := (mkF m 18 #[.val (.int p0), .val (.int p1), .val (.int (0 : Int32)), .unset, .unset, .unset] [(.int (0 : Int32)), (.int p0), (.ref b2), (.ref b2)])) rfl (by rw [hml']; rfl) (a := b2) (argsL := [(.int p0), (.int (0 : Int32))]) (rest := [(.ref b2)]) rfl (lenOf own_pd_IZ_V_330 rfl) rfl (by show 2 * 0 + _ ≤ _; exact Nat.le_of_eq rfl) (hb hby at_18) (fun r3 T3 L3 X3 hQ3 => ?_)
    obtain ⟨rfl, Nq3, Kq3, f0_3, f1_3, f2_3⟩ := hQ3
    have N3 := Fr.app N0 Nq3
    have K3 := Keep.trans K2 Kq3 (allS (Or.inr sz_b2) all0)
    have Z3 := Nat.le_trans Z2 Kq3.1
    show own_End p e below P (T3.setTop (mkF m 21 #[.val (.int p0), .val (.int p1), .val (.int (0 : Int32)), .unset, .unset, .unset] [(.ref b2)]))
    refine own_st (fun _ => XS.astoreN X3.here hx rfl (hb hby at_21) rfl rfl (l' := #[.val (.int p0), .val (.int p1), .val (.int (0 : Int32)), .val (.ref b2), .unset, .unset]) rfl) ?_
    show own_End p e below P (T3.setTop (mkF m 22 #[.val (.int p0), .val (.int p1), .val (.int (0 : Int32)), .val (.ref b2), .unset, .unset] []))
    refine own_st (fun _ => XS.aloadN X3.here hx rfl (hb hby at_22) rfl rfl) ?_
    show own_End p e below P (T3.setTop (mkF m 23 #[.val (.int p0), .val (.int p1), .val (.int (0 : Int32)), .val (.ref b2), .unset, .unset] [(.ref b2)]))
    refine own_st (fun _ => XS.iconst X3.here hx rfl (hb hby at_23)) ?_
    show own_End p e below P (T3.setTop (mkF m 24 #[.val (.int p0), .val (.int p1), .val (.int (0 : Int32)), .val (.ref b2), .unset, .unset] [(.int (1 : Int32)), (.ref b2)]))
    refine own_callV X3 hx hZ (y := (⟨"com/example/weiche/weiche/net/Guard", "admits", "(Z)Z"⟩ : MethodName)) (z := (⟨"com/example/weiche/weiche/net/Guard", "admits", "(Z)Z"⟩ : MethodName)) hown (hw _ (List.mem_of_getElem? (i := 13) rfl)) (hw _ (List.mem_of_getElem? (i := 14) rfl)) (notFace_of_selects (args := #[]) (mvT hZ (hw _ (List.mem_of_getElem? (i := 16) rfl)))) (hw _ (List.mem_of_getElem? (i := 16) rfl)) (hw _ (List.mem_of_getElem? (i := 15) rfl)) (hw _ (List.mem_of_getElem? (i := 2) rfl)) (hw _ (List.mem_of_getElem? (i := 17) rfl)) (by decide) f0_3 (own_m2 l Z a0 hw [] b2 (1 : Int32) (nar .boolean (0 : Int32)) T3.heap n0 Z3 f2_3) 0 (by decide) (by decide) rfl (by decide) (by decide) (g := (mkF m 24 #[.val (.int p0), .val (.int p1), .val (.int (0 : Int32)), .val (.ref b2), .unset, .unset] [(.int (1 : Int32)), (.ref b2)])) rfl (by rw [hml']; rfl) (argsL := [(.int (1 : Int32))]) (rest := []) rfl (lenOf own_pd_Z_Z_261 rfl) rfl (by show 2 * 0 + _ ≤ _; exact Nat.le_of_eq rfl) (hb hby at_24) (fun r4 T4 L4 X4 hQ4 => ?_)
    obtain ⟨rfl, Nq4, eq4⟩ := hQ4
    have N4 := Fr.app N3 Nq4
    show own_End p e below P (T4.setTop (mkF m 27 #[.val (.int p0), .val (.int p1), .val (.int (0 : Int32)), .val (.ref b2), .unset, .unset] [(.int (own_f2 (1 : Int32) (nar .boolean (0 : Int32))))]))
    refine own_st (fun _ => XS.istore X4.here hx rfl (hb hby at_27) rfl (l' := #[.val (.int p0), .val (.int p1), .val (.int (0 : Int32)), .val (.ref b2), .val (.int (own_f2 (1 : Int32) (nar .boolean (0 : Int32)))), .unset]) rfl) ?_
    show own_End p e below P (T4.setTop (mkF m 29 #[.val (.int p0), .val (.int p1), .val (.int (0 : Int32)), .val (.ref b2), .val (.int (own_f2 (1 : Int32) (nar .boolean (0 : Int32)))), .unset] []))
    refine own_st (fun _ => XS.aloadN X4.here hx rfl (hb hby at_29) rfl rfl) ?_
    show own_End p e below P (T4.setTop (mkF m 30 #[.val (.int p0), .val (.int p1), .val (.int (0 : Int32)), .val (.ref b2), .val (.int (own_f2 (1 : Int32) (nar .boolean (0 : Int32)))), .unset] [(.ref b2)]))
    refine own_st (fun _ => XS.iconst X4.here hx rfl (hb hby at_30)) ?_
    show own_End p e below P (T4.setTop (mkF m 31 #[.val (.int p0), .val (.int p1), .val (.int (0 : Int32)), .val (.ref b2), .val (.int (own_f2 (1 : Int32) (nar .boolean (0 : Int32)))), .unset] [(.int (0 : Int32)), (.ref b2)]))
    refine own_callV X4 hx hZ (y := (⟨"com/example/weiche/weiche/net/Guard", "admits", "(Z)Z"⟩ : MethodName)) (z := (⟨"com/example/weiche/weiche/net/Guard", "admits", "(Z)Z"⟩ : MethodName)) hown (hw _ (List.mem_of_getElem? (i := 13) rfl)) (hw _ (List.mem_of_getElem? (i := 14) rfl)) (notFace_of_selects (args := #[]) (mvT hZ (hw _ (List.mem_of_getElem? (i := 16) rfl)))) (hw _ (List.mem_of_getElem? (i := 16) rfl)) (hw _ (List.mem_of_getElem? (i := 15) rfl)) (hw _ (List.mem_of_getElem? (i := 2) rfl)) (hw _ (List.mem_of_getElem? (i := 17) rfl)) (by decide) f0_3 (own_m2 l Z a0 hw [] b2 (0 : Int32) (nar .boolean (0 : Int32)) T3.heap n0 Z3 f2_3) 0 (by decide) (by decide) eq4 (by decide) (by decide) (g := (mkF m 31 #[.val (.int p0), .val (.int p1), .val (.int (0 : Int32)), .val (.ref b2), .val (.int (own_f2 (1 : Int32) (nar .boolean (0 : Int32)))), .unset] [(.int (0 : Int32)), (.ref b2)])) rfl (by rw [hml']; rfl) (argsL := [(.int (0 : Int32))]) (rest := []) rfl (lenOf own_pd_Z_Z_261 rfl) rfl (by show 2 * 0 + _ ≤ _; exact Nat.le_of_eq rfl) (hb hby at_31) (fun r5 T5 L5 X5 hQ5 => ?_)
    obtain ⟨rfl, Nq5, eq5⟩ := hQ5
    have N5 := Fr.app N4 Nq5
    show own_End p e below P (T5.setTop (mkF m 34 #[.val (.int p0), .val (.int p1), .val (.int (0 : Int32)), .val (.ref b2), .val (.int (own_f2 (1 : Int32) (nar .boolean (0 : Int32)))), .unset] [(.int (own_f2 (0 : Int32) (nar .boolean (0 : Int32))))]))
    refine own_st (fun _ => XS.istore X5.here hx rfl (hb hby at_34) rfl (l' := #[.val (.int p0), .val (.int p1), .val (.int (0 : Int32)), .val (.ref b2), .val (.int (own_f2 (1 : Int32) (nar .boolean (0 : Int32)))), .val (.int (own_f2 (0 : Int32) (nar .boolean (0 : Int32))))]) rfl) ?_
    show own_End p e below P (T5.setTop (mkF m 36 #[.val (.int p0), .val (.int p1), .val (.int (0 : Int32)), .val (.ref b2), .val (.int (own_f2 (1 : Int32) (nar .boolean (0 : Int32)))), .val (.int (own_f2 (0 : Int32) (nar .boolean (0 : Int32))))] []))
    refine own_st (fun _ => XS.aloadN X5.here hx rfl (hb hby at_36) rfl rfl) ?_
    show own_End p e below P (T5.setTop (mkF m 37 #[.val (.int p0), .val (.int p1), .val (.int (0 : Int32)), .val (.ref b2), .val (.int (own_f2 (1 : Int32) (nar .boolean (0 : Int32)))), .val (.int (own_f2 (0 : Int32) (nar .boolean (0 : Int32))))] [(.ref b2)]))
    refine own_callV X5 hx hZ (y := (⟨"com/example/weiche/weiche/net/Guard", "condition", "()I"⟩ : MethodName)) (z := (⟨"com/example/weiche/weiche/net/Guard", "condition", "()I"⟩ : MethodName)) hown (hw _ (List.mem_of_getElem? (i := 18) rfl)) (hw _ (List.mem_of_getElem? (i := 19) rfl)) (notFace_of_selects (args := #[]) (mvT hZ (hw _ (List.mem_of_getElem? (i := 21) rfl)))) (hw _ (List.mem_of_getElem? (i := 21) rfl)) (hw _ (List.mem_of_getElem? (i := 20) rfl)) (hw _ (List.mem_of_getElem? (i := 2) rfl)) (hw _ (List.mem_of_getElem? (i := 22) rfl)) (by decide) f0_3 (own_m3 l Z a0 hw [] b2 p0 T3.heap n0 Z3 f1_3) 0 (by decide) (by decide) eq5 (by decide) (by decide) (g := (mkF m 37 #[.val (.int p0), .val (.int p1), .val (.int (0 : Int32)), .val (.ref b2), .val (.int (own_f2 (1 : Int32) (nar .boolean (0 : Int32)))), .val (.int (own_f2 (0 : Int32) (nar .boolean (0 : Int32))))] [(.ref b2)])) rfl (by rw [hml']; rfl) (argsL := []) (rest := []) rfl (lenOf own_pd_I_154 rfl) rfl (by show 2 * 0 + _ ≤ _; exact Nat.le_of_eq rfl) (hb hby at_37) (fun r6 T6 L6 X6 hQ6 => ?_)
    obtain ⟨rfl, Nq6, eq6⟩ := hQ6
    have N6 := Fr.app N5 Nq6
    show own_End p e below P (T6.setTop (mkF m 40 #[.val (.int p0), .val (.int p1), .val (.int (0 : Int32)), .val (.ref b2), .val (.int (own_f2 (1 : Int32) (nar .boolean (0 : Int32)))), .val (.int (own_f2 (0 : Int32) (nar .boolean (0 : Int32))))] [(.int (own_f3 p0))]))
    refine own_st (fun _ => XS.iloadN X6.here hx rfl (hb hby at_40) rfl) ?_
    show own_End p e below P (T6.setTop (mkF m 41 #[.val (.int p0), .val (.int p1), .val (.int (0 : Int32)), .val (.ref b2), .val (.int (own_f2 (1 : Int32) (nar .boolean (0 : Int32)))), .val (.int (own_f2 (0 : Int32) (nar .boolean (0 : Int32))))] [(.int p0), (.int (own_f3 p0))]))
    have hc7 : (own_f3 p0) = p0 := by rfl
    refine own_st (fun _ => XS.icmpYes X6.here hx rfl (pc0 := 41) (pc' := 46) rfl (hb hby at_41) rfl (teq hc7).1 (by decide) (by decide)) ?_
    show own_End p e below P (T6.setTop (mkF m 46 #[.val (.int p0), .val (.int p1), .val (.int (0 : Int32)), .val (.ref b2), .val (.int (own_f2 (1 : Int32) (nar .boolean (0 : Int32)))), .val (.int (own_f2 (0 : Int32) (nar .boolean (0 : Int32))))] []))
    refine own_st (fun _ => XS.iloadN X6.here hx rfl (hb hby at_46) rfl) ?_
    show own_End p e below P (T6.setTop (mkF m 47 #[.val (.int p0), .val (.int p1), .val (.int (0 : Int32)), .val (.ref b2), .val (.int (own_f2 (1 : Int32) (nar .boolean (0 : Int32)))), .val (.int (own_f2 (0 : Int32) (nar .boolean (0 : Int32))))] [(.int (0 : Int32))]))
    refine own_st (fun _ => XS.ifYes X6.here hx rfl (pc0 := 47) (pc' := 66) rfl (hb hby at_47) rfl ((if0 _ _).trans (teq (by decide : (0 : Int32) = (0 : Int32))).1) (by decide) (by decide)) ?_
    show own_End p e below P (T6.setTop (mkF m 66 #[.val (.int p0), .val (.int p1), .val (.int (0 : Int32)), .val (.ref b2), .val (.int (own_f2 (1 : Int32) (nar .boolean (0 : Int32)))), .val (.int (own_f2 (0 : Int32) (nar .boolean (0 : Int32))))] []))
    refine own_st (fun _ => XS.iload X6.here hx rfl (hb hby at_66) rfl) ?_
    show own_End p e below P (T6.setTop (mkF m 68 #[.val (.int p0), .val (.int p1), .val (.int (0 : Int32)), .val (.ref b2), .val (.int (own_f2 (1 : Int32) (nar .boolean (0 : Int32)))), .val (.int (own_f2 (0 : Int32) (nar .boolean (0 : Int32))))] [(.int (own_f2 (1 : Int32) (nar .boolean (0 : Int32))))]))
    have hc8 : ¬ ((own_f2 (1 : Int32) (nar .boolean (0 : Int32))) = (0 : Int32)) := by decide
    refine own_st (fun _ => XS.ifNo X6.here hx rfl (hb hby at_68) rfl ((if0 _ _).trans (feq hc8).1)) ?_
    show own_End p e below P (T6.setTop (mkF m 71 #[.val (.int p0), .val (.int p1), .val (.int (0 : Int32)), .val (.ref b2), .val (.int (own_f2 (1 : Int32) (nar .boolean (0 : Int32)))), .val (.int (own_f2 (0 : Int32) (nar .boolean (0 : Int32))))] []))
    refine own_st (fun _ => XS.iload X6.here hx rfl (hb hby at_71) rfl) ?_
    show own_End p e below P (T6.setTop (mkF m 73 #[.val (.int p0), .val (.int p1), .val (.int (0 : Int32)), .val (.ref b2), .val (.int (own_f2 (1 : Int32) (nar .boolean (0 : Int32)))), .val (.int (own_f2 (0 : Int32) (nar .boolean (0 : Int32))))] [(.int (own_f2 (0 : Int32) (nar .boolean (0 : Int32))))]))
    have hc9 : (own_f2 (0 : Int32) (nar .boolean (0 : Int32))) = (0 : Int32) := by decide
    refine own_st (fun _ => XS.ifNo X6.here hx rfl (hb hby at_73) rfl ((if0 _ _).trans (teq hc9).2)) ?_
    show own_End p e below P (T6.setTop (mkF m 76 #[.val (.int p0), .val (.int p1), .val (.int (0 : Int32)), .val (.ref b2), .val (.int (own_f2 (1 : Int32) (nar .boolean (0 : Int32)))), .val (.int (own_f2 (0 : Int32) (nar .boolean (0 : Int32))))] []))
    refine own_st (fun _ => XS.iconst X6.here hx rfl (hb hby at_76)) ?_
    show own_End p e below P (T6.setTop (mkF m 77 #[.val (.int p0), .val (.int p1), .val (.int (0 : Int32)), .val (.ref b2), .val (.int (own_f2 (1 : Int32) (nar .boolean (0 : Int32)))), .val (.int (own_f2 (0 : Int32) (nar .boolean (0 : Int32))))] [(.int (1 : Int32))]))
    refine own_st (fun _ => XS.goto X6.here hx rfl (pc0 := 77) (pc' := 81) rfl (hb hby at_77) (by decide) (by decide)) ?_
    show own_End p e below P (T6.setTop (mkF m 81 #[.val (.int p0), .val (.int p1), .val (.int (0 : Int32)), .val (.ref b2), .val (.int (own_f2 (1 : Int32) (nar .boolean (0 : Int32)))), .val (.int (own_f2 (0 : Int32) (nar .boolean (0 : Int32))))] [(.int (1 : Int32))]))
    exact own_retN X6 hx hlk hP (t := .boolean) (by simp) hrt (hb hby at_81) (by decide) (by decide) ⟨rfl, N6⟩
  · refine own_st (fun _ => XS.ifNo X0.here hx rfl (hb hby at_3) rfl ((if0 _ _).trans (feq hc1).1)) ?_
    show own_End p e below P (s₁.setTop (mkF m 6 #[.val (.int p0), .val (.int p1), .unset, .unset, .unset, .unset] []))
    refine own_st (fun _ => XS.iconst X0.here hx rfl (hb hby at_6)) ?_
    show own_End p e below P (s₁.setTop (mkF m 7 #[.val (.int p0), .val (.int p1), .unset, .unset, .unset, .unset] [(.int (1 : Int32))]))
    refine own_st (fun _ => XS.goto X0.here hx rfl (pc0 := 7) (pc' := 11) rfl (hb hby at_7) (by decide) (by decide)) ?_
    show own_End p e below P (s₁.setTop (mkF m 11 #[.val (.int p0), .val (.int p1), .unset, .unset, .unset, .unset] [(.int (1 : Int32))]))
    refine own_st (fun _ => XS.istoreN X0.here hx rfl (hb hby at_11) rfl (l' := #[.val (.int p0), .val (.int p1), .val (.int (1 : Int32)), .unset, .unset, .unset]) rfl) ?_
    show own_End p e below P (s₁.setTop (mkF m 12 #[.val (.int p0), .val (.int p1), .val (.int (1 : Int32)), .unset, .unset, .unset] []))
    obtain ⟨T10, h10, X10, e10, E10, A10, D10, -, st10⟩ := newO X0 hx hZ hown (hw _ (List.mem_of_getElem? (i := 0) rfl)) (hw _ (List.mem_of_getElem? (i := 1) rfl)) (hw _ (List.mem_of_getElem? (i := 2) rfl)) e0 (g := (mkF m 12 #[.val (.int p0), .val (.int p1), .val (.int (1 : Int32)), .unset, .unset, .unset] [])) rfl (hb hby at_12) (by decide) (by decide)
    obtain ⟨b10, g10⟩ : ∃ z, z = h0.size := ⟨_, rfl⟩
    rw [← g10] at A10 D10 st10
    have low_b10 : n0 ≤ b10 := Nat.le_trans Z0 (Nat.le_of_eq g10.symm)
    have sz_b10 : h0.size ≤ b10 := Nat.le_trans K0.1 (Nat.le_of_eq g10.symm)
    have Z10 := Nat.le_trans Z0 E10.1
    have K10 := Keep.ext K0 E10
    have F_b10_condition : Fld Z h10 b10 "com/example/weiche/weiche/net/Guard" "condition" "I" (.int (0 : Int32)) := D10 (Or.inr (hw _ (List.mem_of_getElem? (i := 10) rfl))) (ty := .int) (by decide)
    have F_b10_negated : Fld Z h10 b10 "com/example/weiche/weiche/net/Guard" "negated" "Z" (.int (0 : Int32)) := D10 (Or.inr (hw _ (List.mem_of_getElem? (i := 12) rfl))) (ty := .boolean) (by decide)
    refine own_st (fun _ => st10 _) ?_
    show own_End p e below P (T10.setTop (mkF m 15 #[.val (.int p0), .val (.int p1), .val (.int (1 : Int32)), .unset, .unset, .unset] [(.ref b10)]))
    refine own_st (fun _ => XS.dup X10.here hx rfl (hb hby at_15) rfl rfl) ?_
    show own_End p e below P (T10.setTop (mkF m 16 #[.val (.int p0), .val (.int p1), .val (.int (1 : Int32)), .unset, .unset, .unset] [(.ref b10), (.ref b10)]))
    refine own_st (fun _ => XS.iloadN X10.here hx rfl (hb hby at_16) rfl) ?_
    show own_End p e below P (T10.setTop (mkF m 17 #[.val (.int p0), .val (.int p1), .val (.int (1 : Int32)), .unset, .unset, .unset] [(.int p0), (.ref b10), (.ref b10)]))
    refine own_st (fun _ => XS.iloadN X10.here hx rfl (hb hby at_17) rfl) ?_
    show own_End p e below P (T10.setTop (mkF m 18 #[.val (.int p0), .val (.int p1), .val (.int (1 : Int32)), .unset, .unset, .unset] [(.int (1 : Int32)), (.int p0), (.ref b10), (.ref b10)]))
    refine own_callI X10 hx hZ (y := (⟨"com/example/weiche/weiche/net/Guard", "<init>", "(IZ)V"⟩ : MethodName)) rfl hown (hw _ (List.mem_of_getElem? (i := 3) rfl)) (hw _ (List.mem_of_getElem? (i := 4) rfl)) (hw _ (List.mem_of_getElem? (i := 2) rfl)) (hw _ (List.mem_of_getElem? (i := 5) rfl)) (by decide) (own_m1 l Z a0 hw [] b10 p0 (1 : Int32)  h10 n0 Z10 A10 F_b10_condition F_b10_negated low_b10) 1 (by decide) (by decide) e10 (by decide) (by decide) (g := (mkF m 18 #[.val (.int p0), .val (.int p1), .val (.int (1 : Int32)), .unset, .unset, .unset] [(.int (1 : Int32)), (.int p0), (.ref b10), (.ref b10)])) rfl (by rw [hml']; rfl) (a := b10) (argsL := [(.int p0), (.int (1 : Int32))]) (rest := [(.ref b10)]) rfl (lenOf own_pd_IZ_V_330 rfl) rfl (by show 2 * 0 + _ ≤ _; exact Nat.le_of_eq rfl) (hb hby at_18) (fun r11 T11 L11 X11 hQ11 => ?_)
    obtain ⟨rfl, Nq11, Kq11, f0_11, f1_11, f2_11⟩ := hQ11
    have N11 := Fr.app N0 Nq11
    have K11 := Keep.trans K10 Kq11 (allS (Or.inr sz_b10) all0)
    have Z11 := Nat.le_trans Z10 Kq11.1
    show own_End p e below P (T11.setTop (mkF m 21 #[.val (.int p0), .val (.int p1), .val (.int (1 : Int32)), .unset, .unset, .unset] [(.ref b10)]))
    refine own_st (fun _ => XS.astoreN X11.here hx rfl (hb hby at_21) rfl rfl (l' := #[.val (.int p0), .val (.int p1), .val (.int (1 : Int32)), .val (.ref b10), .unset, .unset]) rfl) ?_
    show own_End p e below P (T11.setTop (mkF m 22 #[.val (.int p0), .val (.int p1), .val (.int (1 : Int32)), .val (.ref b10), .unset, .unset] []))
    refine own_st (fun _ => XS.aloadN X11.here hx rfl (hb hby at_22) rfl rfl) ?_
    show own_End p e below P (T11.setTop (mkF m 23 #[.val (.int p0), .val (.int p1), .val (.int (1 : Int32)), .val (.ref b10), .unset, .unset] [(.ref b10)]))
    refine own_st (fun _ => XS.iconst X11.here hx rfl (hb hby at_23)) ?_
    show own_End p e below P (T11.setTop (mkF m 24 #[.val (.int p0), .val (.int p1), .val (.int (1 : Int32)), .val (.ref b10), .unset, .unset] [(.int (1 : Int32)), (.ref b10)]))
    refine own_callV X11 hx hZ (y := (⟨"com/example/weiche/weiche/net/Guard", "admits", "(Z)Z"⟩ : MethodName)) (z := (⟨"com/example/weiche/weiche/net/Guard", "admits", "(Z)Z"⟩ : MethodName)) hown (hw _ (List.mem_of_getElem? (i := 13) rfl)) (hw _ (List.mem_of_getElem? (i := 14) rfl)) (notFace_of_selects (args := #[]) (mvT hZ (hw _ (List.mem_of_getElem? (i := 16) rfl)))) (hw _ (List.mem_of_getElem? (i := 16) rfl)) (hw _ (List.mem_of_getElem? (i := 15) rfl)) (hw _ (List.mem_of_getElem? (i := 2) rfl)) (hw _ (List.mem_of_getElem? (i := 17) rfl)) (by decide) f0_11 (own_m2 l Z a0 hw [] b10 (1 : Int32) (nar .boolean (1 : Int32)) T11.heap n0 Z11 f2_11) 0 (by decide) (by decide) rfl (by decide) (by decide) (g := (mkF m 24 #[.val (.int p0), .val (.int p1), .val (.int (1 : Int32)), .val (.ref b10), .unset, .unset] [(.int (1 : Int32)), (.ref b10)])) rfl (by rw [hml']; rfl) (argsL := [(.int (1 : Int32))]) (rest := []) rfl (lenOf own_pd_Z_Z_261 rfl) rfl (by show 2 * 0 + _ ≤ _; exact Nat.le_of_eq rfl) (hb hby at_24) (fun r12 T12 L12 X12 hQ12 => ?_)
    obtain ⟨rfl, Nq12, eq12⟩ := hQ12
    have N12 := Fr.app N11 Nq12
    show own_End p e below P (T12.setTop (mkF m 27 #[.val (.int p0), .val (.int p1), .val (.int (1 : Int32)), .val (.ref b10), .unset, .unset] [(.int (own_f2 (1 : Int32) (nar .boolean (1 : Int32))))]))
    refine own_st (fun _ => XS.istore X12.here hx rfl (hb hby at_27) rfl (l' := #[.val (.int p0), .val (.int p1), .val (.int (1 : Int32)), .val (.ref b10), .val (.int (own_f2 (1 : Int32) (nar .boolean (1 : Int32)))), .unset]) rfl) ?_
    show own_End p e below P (T12.setTop (mkF m 29 #[.val (.int p0), .val (.int p1), .val (.int (1 : Int32)), .val (.ref b10), .val (.int (own_f2 (1 : Int32) (nar .boolean (1 : Int32)))), .unset] []))
    refine own_st (fun _ => XS.aloadN X12.here hx rfl (hb hby at_29) rfl rfl) ?_
    show own_End p e below P (T12.setTop (mkF m 30 #[.val (.int p0), .val (.int p1), .val (.int (1 : Int32)), .val (.ref b10), .val (.int (own_f2 (1 : Int32) (nar .boolean (1 : Int32)))), .unset] [(.ref b10)]))
    refine own_st (fun _ => XS.iconst X12.here hx rfl (hb hby at_30)) ?_
    show own_End p e below P (T12.setTop (mkF m 31 #[.val (.int p0), .val (.int p1), .val (.int (1 : Int32)), .val (.ref b10), .val (.int (own_f2 (1 : Int32) (nar .boolean (1 : Int32)))), .unset] [(.int (0 : Int32)), (.ref b10)]))
    refine own_callV X12 hx hZ (y := (⟨"com/example/weiche/weiche/net/Guard", "admits", "(Z)Z"⟩ : MethodName)) (z := (⟨"com/example/weiche/weiche/net/Guard", "admits", "(Z)Z"⟩ : MethodName)) hown (hw _ (List.mem_of_getElem? (i := 13) rfl)) (hw _ (List.mem_of_getElem? (i := 14) rfl)) (notFace_of_selects (args := #[]) (mvT hZ (hw _ (List.mem_of_getElem? (i := 16) rfl)))) (hw _ (List.mem_of_getElem? (i := 16) rfl)) (hw _ (List.mem_of_getElem? (i := 15) rfl)) (hw _ (List.mem_of_getElem? (i := 2) rfl)) (hw _ (List.mem_of_getElem? (i := 17) rfl)) (by decide) f0_11 (own_m2 l Z a0 hw [] b10 (0 : Int32) (nar .boolean (1 : Int32)) T11.heap n0 Z11 f2_11) 0 (by decide) (by decide) eq12 (by decide) (by decide) (g := (mkF m 31 #[.val (.int p0), .val (.int p1), .val (.int (1 : Int32)), .val (.ref b10), .val (.int (own_f2 (1 : Int32) (nar .boolean (1 : Int32)))), .unset] [(.int (0 : Int32)), (.ref b10)])) rfl (by rw [hml']; rfl) (argsL := [(.int (0 : Int32))]) (rest := []) rfl (lenOf own_pd_Z_Z_261 rfl) rfl (by show 2 * 0 + _ ≤ _; exact Nat.le_of_eq rfl) (hb hby at_31) (fun r13 T13 L13 X13 hQ13 => ?_)
    obtain ⟨rfl, Nq13, eq13⟩ := hQ13
    have N13 := Fr.app N12 Nq13
    show own_End p e below P (T13.setTop (mkF m 34 #[.val (.int p0), .val (.int p1), .val (.int (1 : Int32)), .val (.ref b10), .val (.int (own_f2 (1 : Int32) (nar .boolean (1 : Int32)))), .unset] [(.int (own_f2 (0 : Int32) (nar .boolean (1 : Int32))))]))
    refine own_st (fun _ => XS.istore X13.here hx rfl (hb hby at_34) rfl (l' := #[.val (.int p0), .val (.int p1), .val (.int (1 : Int32)), .val (.ref b10), .val (.int (own_f2 (1 : Int32) (nar .boolean (1 : Int32)))), .val (.int (own_f2 (0 : Int32) (nar .boolean (1 : Int32))))]) rfl) ?_
    show own_End p e below P (T13.setTop (mkF m 36 #[.val (.int p0), .val (.int p1), .val (.int (1 : Int32)), .val (.ref b10), .val (.int (own_f2 (1 : Int32) (nar .boolean (1 : Int32)))), .val (.int (own_f2 (0 : Int32) (nar .boolean (1 : Int32))))] []))
    refine own_st (fun _ => XS.aloadN X13.here hx rfl (hb hby at_36) rfl rfl) ?_
    show own_End p e below P (T13.setTop (mkF m 37 #[.val (.int p0), .val (.int p1), .val (.int (1 : Int32)), .val (.ref b10), .val (.int (own_f2 (1 : Int32) (nar .boolean (1 : Int32)))), .val (.int (own_f2 (0 : Int32) (nar .boolean (1 : Int32))))] [(.ref b10)]))
    refine own_callV X13 hx hZ (y := (⟨"com/example/weiche/weiche/net/Guard", "condition", "()I"⟩ : MethodName)) (z := (⟨"com/example/weiche/weiche/net/Guard", "condition", "()I"⟩ : MethodName)) hown (hw _ (List.mem_of_getElem? (i := 18) rfl)) (hw _ (List.mem_of_getElem? (i := 19) rfl)) (notFace_of_selects (args := #[]) (mvT hZ (hw _ (List.mem_of_getElem? (i := 21) rfl)))) (hw _ (List.mem_of_getElem? (i := 21) rfl)) (hw _ (List.mem_of_getElem? (i := 20) rfl)) (hw _ (List.mem_of_getElem? (i := 2) rfl)) (hw _ (List.mem_of_getElem? (i := 22) rfl)) (by decide) f0_11 (own_m3 l Z a0 hw [] b10 p0 T11.heap n0 Z11 f1_11) 0 (by decide) (by decide) eq13 (by decide) (by decide) (g := (mkF m 37 #[.val (.int p0), .val (.int p1), .val (.int (1 : Int32)), .val (.ref b10), .val (.int (own_f2 (1 : Int32) (nar .boolean (1 : Int32)))), .val (.int (own_f2 (0 : Int32) (nar .boolean (1 : Int32))))] [(.ref b10)])) rfl (by rw [hml']; rfl) (argsL := []) (rest := []) rfl (lenOf own_pd_I_154 rfl) rfl (by show 2 * 0 + _ ≤ _; exact Nat.le_of_eq rfl) (hb hby at_37) (fun r14 T14 L14 X14 hQ14 => ?_)
    obtain ⟨rfl, Nq14, eq14⟩ := hQ14
    have N14 := Fr.app N13 Nq14
    show own_End p e below P (T14.setTop (mkF m 40 #[.val (.int p0), .val (.int p1), .val (.int (1 : Int32)), .val (.ref b10), .val (.int (own_f2 (1 : Int32) (nar .boolean (1 : Int32)))), .val (.int (own_f2 (0 : Int32) (nar .boolean (1 : Int32))))] [(.int (own_f3 p0))]))
    refine own_st (fun _ => XS.iloadN X14.here hx rfl (hb hby at_40) rfl) ?_
    show own_End p e below P (T14.setTop (mkF m 41 #[.val (.int p0), .val (.int p1), .val (.int (1 : Int32)), .val (.ref b10), .val (.int (own_f2 (1 : Int32) (nar .boolean (1 : Int32)))), .val (.int (own_f2 (0 : Int32) (nar .boolean (1 : Int32))))] [(.int p0), (.int (own_f3 p0))]))
    have hc15 : (own_f3 p0) = p0 := by rfl
    refine own_st (fun _ => XS.icmpYes X14.here hx rfl (pc0 := 41) (pc' := 46) rfl (hb hby at_41) rfl (teq hc15).1 (by decide) (by decide)) ?_
    show own_End p e below P (T14.setTop (mkF m 46 #[.val (.int p0), .val (.int p1), .val (.int (1 : Int32)), .val (.ref b10), .val (.int (own_f2 (1 : Int32) (nar .boolean (1 : Int32)))), .val (.int (own_f2 (0 : Int32) (nar .boolean (1 : Int32))))] []))
    refine own_st (fun _ => XS.iloadN X14.here hx rfl (hb hby at_46) rfl) ?_
    show own_End p e below P (T14.setTop (mkF m 47 #[.val (.int p0), .val (.int p1), .val (.int (1 : Int32)), .val (.ref b10), .val (.int (own_f2 (1 : Int32) (nar .boolean (1 : Int32)))), .val (.int (own_f2 (0 : Int32) (nar .boolean (1 : Int32))))] [(.int (1 : Int32))]))
    refine own_st (fun _ => XS.ifNo X14.here hx rfl (hb hby at_47) rfl ((if0 _ _).trans (feq (by decide : ¬ ((1 : Int32) = (0 : Int32)))).1)) ?_
    show own_End p e below P (T14.setTop (mkF m 50 #[.val (.int p0), .val (.int p1), .val (.int (1 : Int32)), .val (.ref b10), .val (.int (own_f2 (1 : Int32) (nar .boolean (1 : Int32)))), .val (.int (own_f2 (0 : Int32) (nar .boolean (1 : Int32))))] []))
    refine own_st (fun _ => XS.iload X14.here hx rfl (hb hby at_50) rfl) ?_
    show own_End p e below P (T14.setTop (mkF m 52 #[.val (.int p0), .val (.int p1), .val (.int (1 : Int32)), .val (.ref b10), .val (.int (own_f2 (1 : Int32) (nar .boolean (1 : Int32)))), .val (.int (own_f2 (0 : Int32) (nar .boolean (1 : Int32))))] [(.int (own_f2 (1 : Int32) (nar .boolean (1 : Int32))))]))
    have hc16 : (own_f2 (1 : Int32) (nar .boolean (1 : Int32))) = (0 : Int32) := by decide
    refine own_st (fun _ => XS.ifNo X14.here hx rfl (hb hby at_52) rfl ((if0 _ _).trans (teq hc16).2)) ?_
    show own_End p e below P (T14.setTop (mkF m 55 #[.val (.int p0), .val (.int p1), .val (.int (1 : Int32)), .val (.ref b10), .val (.int (own_f2 (1 : Int32) (nar .boolean (1 : Int32)))), .val (.int (own_f2 (0 : Int32) (nar .boolean (1 : Int32))))] []))
    refine own_st (fun _ => XS.iload X14.here hx rfl (hb hby at_55) rfl) ?_
    show own_End p e below P (T14.setTop (mkF m 57 #[.val (.int p0), .val (.int p1), .val (.int (1 : Int32)), .val (.ref b10), .val (.int (own_f2 (1 : Int32) (nar .boolean (1 : Int32)))), .val (.int (own_f2 (0 : Int32) (nar .boolean (1 : Int32))))] [(.int (own_f2 (0 : Int32) (nar .boolean (1 : Int32))))]))
    have hc17 : ¬ ((own_f2 (0 : Int32) (nar .boolean (1 : Int32))) = (0 : Int32)) := by decide
    refine own_st (fun _ => XS.ifNo X14.here hx rfl (hb hby at_57) rfl ((if0 _ _).trans (feq hc17).1)) ?_
    show own_End p e below P (T14.setTop (mkF m 60 #[.val (.int p0), .val (.int p1), .val (.int (1 : Int32)), .val (.ref b10), .val (.int (own_f2 (1 : Int32) (nar .boolean (1 : Int32)))), .val (.int (own_f2 (0 : Int32) (nar .boolean (1 : Int32))))] []))
    refine own_st (fun _ => XS.iconst X14.here hx rfl (hb hby at_60)) ?_
    show own_End p e below P (T14.setTop (mkF m 61 #[.val (.int p0), .val (.int p1), .val (.int (1 : Int32)), .val (.ref b10), .val (.int (own_f2 (1 : Int32) (nar .boolean (1 : Int32)))), .val (.int (own_f2 (0 : Int32) (nar .boolean (1 : Int32))))] [(.int (1 : Int32))]))
    refine own_st (fun _ => XS.goto X14.here hx rfl (pc0 := 61) (pc' := 65) rfl (hb hby at_61) (by decide) (by decide)) ?_
    show own_End p e below P (T14.setTop (mkF m 65 #[.val (.int p0), .val (.int p1), .val (.int (1 : Int32)), .val (.ref b10), .val (.int (own_f2 (1 : Int32) (nar .boolean (1 : Int32)))), .val (.int (own_f2 (0 : Int32) (nar .boolean (1 : Int32))))] [(.int (1 : Int32))]))
    exact own_retN X14 hx hlk hP (t := .boolean) (by simp) hrt (hb hby at_65) (by decide) (by decide) ⟨rfl, N14⟩
set_option maxRecDepth 65536 in
set_option maxHeartbeats 40000000 in
theorem comes_1 {Post : Tables → Env → Array Value → State → Outcome → State → Prop} (hpost : ∀ tb e args s v u, (limb_1_1.after args s (.returned v) u = true ∧ limb_1_2.after args s (.returned v) u = true ∧ True) → FrameEnd s (.returned v) u (Jvm.fieldLocs frame_1_writes args s ++ Jvm.arrayLocs frame_1_arrays args s ++ Jvm.staticLocs frame_1_statics s) 16 128 → Post tb e args s (.returned v) u) :
    ArmFor flags0 classFile x code maxLocals ret World_1 tables_1 room_1 Calls_1 rest_1 Pre_1 Post := by
  intro l hfl _ _ p e ha hc hk s m args below hf hA hF happ hP
  obtain ⟨hcalls, hrest, hpre⟩ := hP
  obtain ⟨-, -, -, hnamed, -, -, -, hat⟩ := (Spec.applies_iff hf).mp happ
  obtain ⟨hg, hn⟩ := and_e (Cond.before_iff.mp (show (Jvm.Cond.and given_1 narrow_1).before args s = true from hpre))
  obtain ⟨k1, l1⟩ := and_e hg
  obtain ⟨k2, l2⟩ := and_e l1
  obtain ⟨w0, w1, rfl⟩ : ∃ w0 w1 : Value, args = #[w0, w1] := by
    have hs : args.size = 2 := by simpa [Cond.value, given_1] using k1
    obtain ⟨L⟩ := args
    match L, hs with
    | [w0, w1], _ => exact ⟨w0, w1, rfl⟩
  have hw := fun d (hd : d ∈ tables_1) => atoms_spec (ws := Jvm.Cond.code x code maxLocals ret :: tables_1) hat d (List.mem_cons_of_mem _ hd)
  have hfit : Fit s := fun {y c} hc i hi => by
    obtain ⟨ha, rfl⟩ := Array.getElem?_eq_some_iff.mp hc
    have q := List.all_eq_true.mp ((Array.all_eq_true_iff_forall_mem.mp hF) _ (Array.getElem_mem ha)) i (List.mem_range.mpr hi)
    simpa [Array.getElem?_eq_getElem hi] using q
  obtain ⟨i0, ei0⟩ := is_v k2
  obtain rfl : w0 = (.int i0) := Option.some.inj ei0
  obtain ⟨i1, ei1⟩ := is_v l2
  obtain rfl : w1 = (.int i1) := Option.some.inj ei1
  obtain ⟨n, o, h1, h2, h3, _, L, rfl, ⟨rfl, N⟩, hq⟩ := own_m0 l s _ hw tables_1 i0 i1  s.heap s.heap.size (Nat.le_refl _)  p e ha hc hk s m _ below hf ((Spec.applies_iff_loose hf).mp happ).1 ⟨rfl, State.Warmed39.refl s, rfl⟩ trivial
  refine ⟨n, _, h1, h2, h3, hpost _ _ _ _ _ _ ⟨Cond.after_iff.mpr rfl, Cond.after_iff.mpr (eq_i res_at (Term.int_eval (1)) rfl), trivial⟩ ⟨hq.1, hq.2.1, (hq.2.2.sift fun y hy => Or.inr (N y hy)).mono (by decide) (by decide)⟩⟩
theorem main_1_1 : Claimed_1_1 := comes_1 fun _ _ _ _ _ _ h hF => ⟨h.1, hF⟩
theorem main_1_2 : Claimed_1_2 := comes_1 fun _ _ _ _ _ _ h hF => ⟨h.2.1, hF⟩
end Jvm.Pilot.@@N@@
namespace Jvm.Pilot.@@N@@
open Jvm Jvm.ClassFile Sem Op Lib Jvm.Free Jvm.Stand Jvm.Pilot.@@N@@.Jvm.D
/-! MADE BY PROGRAM (witnessworld.py) out of the Statement's table words and the real class files: 9 classes; the members and pool entries that the words name. The judged class is class 1, her method 1. -/
namespace start1
open Jvm.ClassFile
def u (s : String) : CpInfo := .utf8 (stringToUtf16 s)
/-- a pool by its gaps: so many unusable entries, then the entry; so many at the end -/
def gap : Nat → List CpInfo → List CpInfo
  | 0, r => r
  | n + 1, r => .unusable :: gap n r
def poolList (es : List (Nat × CpInfo)) (last : Nat) : List CpInfo := es.foldr (fun e r => gap e.1 (e.2 :: r)) (gap last [])
def pool (es : List (Nat × CpInfo)) (last : Nat) : Array CpInfo := ⟨poolList es last⟩
def fileOf (pool : Array CpInfo) (this : Nat) (attrs : Array Attribute := #[]) (ms : Array MethodInfo := #[]) (fl : Nat := 33) (sup : Nat := 0) (ifs : Array Nat := #[]) (fds : Array FieldInfo := #[]) : ClassFile where
  minorVersion := 0
  majorVersion := 65
  constantPool := pool
  accessFlags := fl
  thisClass := this
  superClass := sup
  interfaces := ifs
  fields := fds
  methods := ms
  attributes := attrs
def plain (name : String) (sup : Option ClassId) : Class where
  name := name
  kind := .ordinary
  loader := none
  accessFlags := 33
  super := sup
  interfaces := #[]
  cf := none
  fields := #[]
  methods := #[]
  instanceTypes := #[]
  staticTypes := #[]
  resolved := #[]
  callSites := []
  init := .initialized
  statics := none
  mirror := none

def pool0 : Array CpInfo := pool [(5, u "<init>"), (0, u "()V"), (1, .class_ 10), (1, u "java/lang/Object")] 113

def k0c0 : Code := { maxStack := 0, maxLocals := 1, code := object_method_1_code, exceptionTable := #[], attributes := #[] }
def k0m0 : Method := { name := "<init>", desc := "()V", sig := { parameters := [], returnType := none }, accessFlags := 1, code := some k0c0 }
/-- java/lang/Object -/
def k0 : Class := { plain "java/lang/Object" none with
  accessFlags := 33
  interfaces := #[]
  cf := some (fileOf pool0 8 #[] #[{ accessFlags := 1, nameIndex := 5, descriptorIndex := 6, attributes := #[] }] 33 0 #[] #[])
  fields := #[]
  methods := #[k0m0]
  instanceTypes := #[]
  staticTypes := #[]
  resolved := Array.replicate 124 none
  statics := none }

def pool1 : Array CpInfo := pool [(2, .class_ 4), (1, u "java/lang/Object"), (0, u "<init>"), (0, u "()V"), (0, .class_ 8), (0, u "com/example/weiche/weiche/net/Guard"), (0, .methodref 7 10), (0, .nameAndType 5 11), (0, u "(IZ)V"), (0, .methodref 7 13), (0, .nameAndType 14 15), (0, u "admits"), (0, u "(Z)Z"), (0, .methodref 7 17), (0, .nameAndType 18 19), (0, u "condition"), (0, u "()I"), (0, .class_ 21), (0, u "com/example/weiche/weiche/net/GuardAdmitsPinLaw"), (2, u "law"), (0, u "(II)Z")] 3

def k1m0 : Method := { name := "<init>", desc := "()V", sig := { parameters := [], returnType := none }, accessFlags := 1, code := none }
def k1c1 : Code := { maxStack := 4, maxLocals := 6, code := code, exceptionTable := #[], attributes := #[] }
def k1m1 : Method := { name := "law", desc := "(II)Z", sig := { parameters := [.int, .int], returnType := some .boolean }, accessFlags := 9, code := some k1c1 }
/-- com/example/weiche/weiche/net/GuardAdmitsPinLaw -/
def k1 : Class := { plain "com/example/weiche/weiche/net/GuardAdmitsPinLaw" (some 0) with
  accessFlags := 49
  interfaces := #[]
  cf := some (fileOf pool1 20 #[] #[{ accessFlags := 1, nameIndex := 5, descriptorIndex := 6, attributes := #[] }, { accessFlags := 9, nameIndex := 24, descriptorIndex := 25, attributes := #[] }] 49 2 #[] #[])
  fields := #[]
  methods := #[k1m0, k1m1]
  instanceTypes := #[]
  staticTypes := #[]
  resolved := Array.replicate 29 none
  statics := none }

def pool2 : Array CpInfo := pool [(1, .methodref 2 3), (0, .class_ 4), (0, .nameAndType 5 6), (0, u "java/lang/Object"), (0, u "<init>"), (0, u "()V"), (0, .fieldref 8 9), (0, .class_ 10), (0, .nameAndType 11 12), (0, u "com/example/weiche/weiche/net/Guard"), (0, u "condition"), (0, u "I"), (0, .fieldref 8 14), (0, .nameAndType 15 16), (0, u "negated"), (0, u "Z"), (0, u "(IZ)V"), (2, u "()I"), (2, u "admits"), (0, u "(Z)Z")] 3

def k2c0 : Code := { maxStack := 2, maxLocals := 3, code := prog_18_method_1_code, exceptionTable := #[], attributes := #[] }
def k2m0 : Method := { name := "<init>", desc := "(IZ)V", sig := { parameters := [.int, .boolean], returnType := none }, accessFlags := 0, code := some k2c0 }
def k2c1 : Code := { maxStack := 1, maxLocals := 1, code := prog_18_method_2_code, exceptionTable := #[], attributes := #[] }
def k2m1 : Method := { name := "condition", desc := "()I", sig := { parameters := [], returnType := some .int }, accessFlags := 1, code := some k2c1 }
def k2c2 : Code := { maxStack := 2, maxLocals := 2, code := prog_18_method_4_code, exceptionTable := #[], attributes := #[] }
def k2m2 : Method := { name := "admits", desc := "(Z)Z", sig := { parameters := [.boolean], returnType := some .boolean }, accessFlags := 1, code := some k2c2 }
/-- com/example/weiche/weiche/net/Guard -/
def k2 : Class := { plain "com/example/weiche/weiche/net/Guard" (some 0) with
  accessFlags := 49
  interfaces := #[]
  cf := some (fileOf pool2 8 #[] #[{ accessFlags := 0, nameIndex := 5, descriptorIndex := 17, attributes := #[] }, { accessFlags := 1, nameIndex := 11, descriptorIndex := 20, attributes := #[] }, { accessFlags := 1, nameIndex := 23, descriptorIndex := 24, attributes := #[] }] 49 2 #[] #[{ accessFlags := 18, nameIndex := 11, descriptorIndex := 12, attributes := #[] }, { accessFlags := 18, nameIndex := 15, descriptorIndex := 16, attributes := #[] }])
  fields := #[{ name := "condition", type := .int, accessFlags := 18, slot := 0, constantValue := 0 }, { name := "negated", type := .boolean, accessFlags := 18, slot := 1, constantValue := 0 }]
  methods := #[k2m0, k2m1, k2m2]
  instanceTypes := #[.int, .boolean]
  staticTypes := #[]
  resolved := Array.replicate 28 none
  statics := none }

def pool3 : Array CpInfo := pool [(1, u "java/lang/Cloneable"), (0, .class_ 1), (0, u "java/lang/Object"), (0, .class_ 3)] 3

/-- java/lang/Cloneable -/
def k3 : Class := { plain "java/lang/Cloneable" (some 0) with
  accessFlags := 1537
  interfaces := #[]
  cf := some (fileOf pool3 2 #[] #[] 1537 4 #[] #[])
  fields := #[]
  methods := #[]
  instanceTypes := #[]
  staticTypes := #[]
  resolved := Array.replicate 8 none
  statics := none }

def pool4 : Array CpInfo := pool [(1, u "java/io/Serializable"), (0, .class_ 1), (0, u "java/lang/Object"), (0, .class_ 3)] 3

/-- java/io/Serializable -/
def k4 : Class := { plain "java/io/Serializable" (some 0) with
  accessFlags := 1537
  interfaces := #[]
  cf := some (fileOf pool4 2 #[] #[] 1537 4 #[] #[])
  fields := #[]
  methods := #[]
  instanceTypes := #[]
  staticTypes := #[]
  resolved := Array.replicate 8 none
  statics := none }

/-- the primitive byte -/
def k5 : Class := { plain "byte" none with kind := .primitive 'B', accessFlags := 0x411 }
/-- [B -/
def k6 : Class := { plain "[B" (some 0) with kind := .array 5 .byte, interfaces := #[3, 4], accessFlags := 1041 }

/-- the primitive int -/
def k7 : Class := { plain "int" none with kind := .primitive 'I', accessFlags := 0x411 }
/-- [I -/
def k8 : Class := { plain "[I" (some 0) with kind := .array 7 .int, interfaces := #[3, 4], accessFlags := 1041 }

def heap : Heap := #[]
def classes : Array Class := #[k0, k1, k2, k3, k4, k5, k6, k7, k8]
def interned : List (Array UInt16 × Addr) := []
def slotsUsed : Nat := 0
def theMethod : MethodId := ⟨1, 1⟩
def args0 : Array Value := #[.int 5, .int 1]
def aboutOver (below : List Frame) : State where
  vm := { classes := classes, interned := interned.toArray }
  heap := heap
  slotsUsed := slotsUsed
  threads := #[{ frames := .invoking theMethod args0 :: below }]
def below0 : List Frame := [.native { method := ⟨0, 0⟩, args := #[] }]
def about1 : State := aboutOver below0
def p0 : Program := .bare "" "" ""
def e0 : Env := launch0.env 0 0 0
theorem w_frames : about1.frames = Frame.invoking theMethod args0 :: below0 := rfl
set_option maxRecDepth 65536 in
theorem w_args : argsFit about1.vm theMethod args0 = true := by decide +kernel
set_option maxRecDepth 65536 in
theorem w_heap : heapFits about1 = true := by decide +kernel
set_option maxRecDepth 65536 in
theorem w_runnable : about1.curStatus? = some .runnable := by decide +kernel
set_option maxRecDepth 65536 in
theorem w_alone : about1.alone = true := by decide +kernel
set_option maxRecDepth 65536 in
theorem w_named : about1.methodNamed? x = some theMethod := by decide +kernel
set_option maxRecDepth 65536 in
theorem w_hears : about1.hears theMethod below0 = true := by decide +kernel
set_option maxRecDepth 65536 in
theorem w_ripe : about1.ripe theMethod args0 below0 = true := by decide +kernel
theorem w_running : about1.status = .running := rfl
set_option maxRecDepth 65536 in
theorem w_room : about1.hasRoom e0.platform room_1 = true :=
  launch0.hasRoom_least _ room_1 (by decide +kernel) (by decide +kernel) (by decide +kernel) (by decide +kernel) (by decide +kernel) (by decide +kernel)
theorem allAtoms_all (ts : List Jvm.Cond) (a : Array Jvm.Value) (st : Jvm.State) : (allAtoms ts).before a st = ts.all (fun c => c.before a st) := by
  induction ts with
  | nil => rfl
  | cons c t ih =>
    show (Jvm.Cond.and c (allAtoms t)).before a st = _
    rw [Jvm.Cond.before_and, ih, List.all_cons]
def words1 : List Jvm.Cond := Jvm.Cond.code x code maxLocals ret :: tables_1
/-- a 'code' word, met by the world's own term for the bytes: nothing is compared byte by byte -/
theorem code_word {y : MethodName} {bytes : ByteArray} {mx : Nat} {rt : Option FieldType} {a : Array Value} {s : State} {m : MethodId} {meth : Method} {c : Code} (h1 : s.methodNamed? y = some m) (h2 : s.vm.method? m = some meth) (h3 : meth.code = some c) (h4 : c.code = bytes)
    (h5 : (c.maxLocals == mx && c.exceptionTable.isEmpty && decide (c.maxStack ≤ mostOperands) && decide (meth.sig.returnType = rt) && !meth.locks && decide (parseMethodDescriptor y.desc = some meth.sig)) = true) : (Jvm.Cond.code y bytes mx rt).before a s = true := by
  simp only [Bool.and_eq_true, beq_iff_eq, Bool.not_eq_true', decide_eq_true_eq] at h5
  obtain ⟨⟨⟨⟨⟨g1, g2⟩, g3⟩, g4⟩, g5⟩, g6⟩ := h5
  simp [Cond.before, Cond.holds, Cond.value, h1, h2, h3, h4, g1, g2, g3, g4, g5, g6]
def isCode : Jvm.Cond → Bool
  | .code _ _ _ _ => true
  | _ => false
theorem all_split {L : List Jvm.Cond} {P : Jvm.Cond → Bool} (h1 : L.all (fun c => isCode c || P c) = true) (h2 : ∀ c ∈ L.filter isCode, P c = true) : L.all P = true := by
  refine List.all_eq_true.mpr fun c hc => ?_
  have h := List.all_eq_true.mp h1 c hc
  rcases Bool.eq_false_or_eq_true (isCode c) with hi | hi
  · exact h2 c (List.mem_filter.mpr ⟨hc, hi⟩)
  · simpa [hi] using h
set_option maxRecDepth 65536 in
theorem w_c0 : (Jvm.Cond.code x code maxLocals ret).before args0 about1 = true := code_word (m := ⟨1, 1⟩) (meth := k1m1) (c := k1c1) (by decide +kernel) rfl rfl rfl (by decide +kernel)
set_option maxRecDepth 65536 in
theorem w_c1 : (Jvm.Cond.code ({ cls := "com/example/weiche/weiche/net/Guard", name := "<init>", desc := "(IZ)V" } : Jvm.MethodName) prog_18_method_1_code (3 : Nat) (Option.none : Option Jvm.ClassFile.FieldType)).before args0 about1 = true := code_word (m := ⟨2, 0⟩) (meth := k2m0) (c := k2c0) (by decide +kernel) rfl rfl rfl (by decide +kernel)
set_option maxRecDepth 65536 in
theorem w_c2 : (Jvm.Cond.code ({ cls := "java/lang/Object", name := "<init>", desc := "()V" } : Jvm.MethodName) object_method_1_code (1 : Nat) (Option.none : Option Jvm.ClassFile.FieldType)).before args0 about1 = true := code_word (m := ⟨0, 0⟩) (meth := k0m0) (c := k0c0) (by decide +kernel) rfl rfl rfl (by decide +kernel)
set_option maxRecDepth 65536 in
theorem w_c3 : (Jvm.Cond.code ({ cls := "com/example/weiche/weiche/net/Guard", name := "admits", desc := "(Z)Z" } : Jvm.MethodName) prog_18_method_4_code (2 : Nat) (Option.some Jvm.ClassFile.FieldType.boolean)).before args0 about1 = true := code_word (m := ⟨2, 2⟩) (meth := k2m2) (c := k2c2) (by decide +kernel) rfl rfl rfl (by decide +kernel)
set_option maxRecDepth 65536 in
theorem w_c4 : (Jvm.Cond.code ({ cls := "com/example/weiche/weiche/net/Guard", name := "condition", desc := "()I" } : Jvm.MethodName) prog_18_method_2_code (1 : Nat) (Option.some Jvm.ClassFile.FieldType.int)).before args0 about1 = true := code_word (m := ⟨2, 1⟩) (meth := k2m1) (c := k2c1) (by decide +kernel) rfl rfl rfl (by decide +kernel)
def codes1 : List Jvm.Cond := [Jvm.Cond.code x code maxLocals ret, Jvm.Cond.code ({ cls := "com/example/weiche/weiche/net/Guard", name := "<init>", desc := "(IZ)V" } : Jvm.MethodName) prog_18_method_1_code (3 : Nat) (Option.none : Option Jvm.ClassFile.FieldType), Jvm.Cond.code ({ cls := "java/lang/Object", name := "<init>", desc := "()V" } : Jvm.MethodName) object_method_1_code (1 : Nat) (Option.none : Option Jvm.ClassFile.FieldType), Jvm.Cond.code ({ cls := "com/example/weiche/weiche/net/Guard", name := "admits", desc := "(Z)Z" } : Jvm.MethodName) prog_18_method_4_code (2 : Nat) (Option.some Jvm.ClassFile.FieldType.boolean), Jvm.Cond.code ({ cls := "com/example/weiche/weiche/net/Guard", name := "condition", desc := "()I" } : Jvm.MethodName) prog_18_method_2_code (1 : Nat) (Option.some Jvm.ClassFile.FieldType.int)]
set_option maxRecDepth 65536 in
theorem codes_eq : words1.filter isCode = codes1 := rfl
theorem w_codes : ∀ c ∈ words1.filter isCode, c.before args0 about1 = true := by
  rw [codes_eq]
  intro c hc
  simp only [codes1, List.mem_cons, List.not_mem_nil, or_false] at hc
  rcases hc with rfl | rfl | rfl | rfl | rfl
  · exact w_c0
  · exact w_c1
  · exact w_c2
  · exact w_c3
  · exact w_c4
set_option maxRecDepth 65536 in
theorem w_t1 : words1.all (fun c => isCode c || c.before args0 about1) = true := by decide +kernel
theorem w_tables : (allAtoms (Jvm.Cond.code x code maxLocals ret :: tables_1)).before args0 about1 = true := by
  rw [allAtoms_all]
  show words1.all (fun c => c.before args0 about1) = true
  refine all_split ?_ w_codes
  rw [w_t1]
set_option maxRecDepth 65536 in
theorem w_case : (Jvm.Cond.and given_1 narrow_1).before args0 about1 = true := by decide +kernel
theorem w_applies : (headSpec (Jvm.Cond.code x code maxLocals ret :: tables_1) room_1).applies x e0.platform about1 = true :=
  (Spec.applies_iff w_frames).mpr ⟨w_running, w_runnable, w_alone, w_named, w_hears, w_ripe, w_room, w_tables⟩
theorem atStart : AtStart classFile x code maxLocals ret World_1 tables_1 room_1 Calls_1 rest_1 Pre_1 launch0 p0 e0 about1 theMethod args0 below0 :=
  ⟨lists_1, trivial, launch0.admits_env _ _ _, launch0.least_env, fairChoices_fair.cas, fairChoices_fair.clock, w_frames, w_args, w_heap, w_applies, trivial, trivial, w_case⟩
end start1
theorem witness_1 : WitnessClaimed_1 := ⟨start1.p0, start1.e0, start1.about1, start1.theMethod, start1.args0, start1.below0, start1.atStart⟩
end Jvm.Pilot.@@N@@
