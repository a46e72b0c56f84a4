import JvmDerived
import JvmDerived.Pilot.@@N@@Statement
import JvmDerived.Pilot.@@N@@Code
set_option linter.unusedVariables false
set_option linter.unusedSimpArgs false
namespace Jvm.RoadKit
open Sem ClassFile Op Lib Jvm.Stand Jvm.Free Jvm.LawKit
section New
variable {p : Program} {l : Launch} {e : Env} {R : Room} {s : State} {m : MethodId} {args : Array Value} {below : List Frame} {meth : Method} {c : Code} {T : State} {locs : List Loc} {cells slots : Nat}
theorem retI (X : Stand p l e R s m args below meth c T locs cells slots) (hx : p.tables.exec = Jvm.exec) {pc : Nat} {Ls : Array Slot} {z : Int32} {rest : List Value} (hret : meth.sig.returnType = some .int) (hd : decode c.code pc = .ok (.ireturn, 1)) {fs : List Frame}
    (hl : ∀ (f : JFrame) (acts : List Action), f.method = m → f.locked = none → f.entered = [] → (doReturn e (T.setTop f) acts (some (.int z))).1 = T.setFrames fs) : Steps p.tables e below (T.setTop (mkF m pc Ls (.int z :: rest))) (T.setFrames fs) := by
  have hm' : T.vm.method? m = some meth := X.method'
  have hn : narrow .int (.int z) = .int z := rfl
  show Steps p.tables e below (T.setTop { method := m, pc := pc, locals := Ls, stack := _ :: rest, locked := none }) _
  jvm_step X.here [X.here.top, hx, hd, hm', hret, hn]
  first | (intro acts; rw [hl _ acts rfl rfl rfl]) | rw [hl _ _ rfl rfl rfl]
  exact Steps.refl _
end New
end Jvm.RoadKit
@@BLOCK:NumsL.lean.txt@@
namespace Jvm.Pilot.@@N@@
open Jvm Jvm.ClassFile Sem Op Lib Jvm.Free Jvm.Stand Jvm.LawKit Jvm.RoadKit Bundle Jvm.Pilot.@@N@@.Jvm.D
abbrev z_s0 : String := "java/lang/AbstractStringBuilder"
abbrev z_s1 : String := "java/lang/String"
abbrev z_s2 : String := "java/lang/StringBuilder"
abbrev z_s3 : String := "com/example/interleaving_explorer/interleavingexplorer/engine/Access"
abbrev z_s4 : String := "(Ljava/lang/String;)Ljava/lang/StringBuilder;"
abbrev z_s5 : String := "java/util/Arrays"
abbrev z_s6 : String := "ensureCapacityInternal"
abbrev z_s7 : String := "java/util/DualPivotQuicksort"
abbrev z_s8 : String := "COMPACT_STRINGS"
abbrev z_s9 : String := "(Ljava/lang/String;)Ljava/lang/AbstractStringBuilder;"
abbrev an8 : String := "java/lang/invoke/MethodHandle"
abbrev ci4 : String := "com/example/interleaving_explorer/interleavingexplorer/engine/AccessTouchesNothingPinLaw"
abbrev ao8 : String := "java/lang/invoke/VarHandle"
abbrev bq5 : String := "(Ljava/util/DualPivotQuicksort$Sorter;[IIII)V"
abbrev co1 : String := "(Ljava/lang/Object;Ljava/lang/String;)Ljava/lang/Object;"
theorem z_w {Z : State} {a0 : Array Value} (hw : ∀ d ∈ tables_1, d.before a0 Z = true) {d : Jvm.Cond} (i : Nat) (h : tables_1[i]? = some d) : d.before a0 Z = true := hw _ (List.mem_of_getElem? h)
theorem z_nb {a b k : Nat} (h : a < k) (g : b = k) : a ≠ b := fun q => by omega
theorem z_nc {a b k : Nat} (h : a < k) (g : k ≤ b) : a ≠ b := fun q => by omega
def ac0 (p : Program) (e : Env) (below : List Frame) (P : Outcome → State → Prop) (S : State) : Prop :=
  ∃ s₂ o, Steps p.tables e below S s₂ ∧ s₂.status = .running ∧ Ended s₂ below o ∧ P o s₂
abbrev as0 (l : Launch) (Z : State) (y : MethodName) (bytes : ByteArray) (maxL : Nat) (rt : Option FieldType) (ws : List Jvm.Cond) (rm : Room) (as' : Array Value) (h0 : Heap) (Q : Option Value → Heap → List Loc → Prop) : Prop :=
  MetFree l y (head1 (Jvm.Cond.code y bytes maxL rt :: ws) rm) (fun a U => a = as' ∧ Z.Warmed39 U.vm ∧ U.heap = h0) (fun _ _ _ _ _ => True) (fun _ U o U' => ∃ v L, o = .returned v ∧ Q v U'.heap L ∧ FrameEnd U o U' L rm.cells rm.slots)
def ck1 (Q : Option Value → Heap → List Loc → Prop) (s : State) (kc ks : Nat) (P : Outcome → State → Prop) : Prop := ∀ v U L, Q v U.heap L → FrameEnd s (.returned v) U L kc ks → P (.returned v) U
section Own
variable {p : Program} {l : Launch} {e : Env} {R : Room} {s : State} {m : MethodId} {args : Array Value} {below : List Frame} {meth : Method} {c : Code} {T : State} {locs : List Loc} {cells slots : Nat} {Z : State} {a0 : Array Value} {h : Heap} {P : Outcome → State → Prop}
theorem ae1 {S S' : State} (q : ∀ t, Steps p.tables e below S' t → Steps p.tables e below S t) (k : ac0 p e below P S') : ac0 p e below P S := by
  obtain ⟨a, b, c, d⟩ := k
  exact ⟨a, b, q _ c, d⟩
theorem by2 {S S' : State} (q : Steps p.tables e below S S') (k : ac0 p e below P S') : ac0 p e below P S := ae1 (fun _ r => q.trans r) k
theorem aq0 {y : MethodName} {bytes : ByteArray} {maxL : Nat} {rt : Option FieldType} {ws : List Jvm.Cond} {rm : Room} {as' : Array Value} {h0 : Heap} {Q : Option Value → Heap → List Loc → Prop} (hpl : plainFor y = true)
    (body : ∀ (p : Program) (e : Env) (s : State) (m : MethodId) (below : List Frame) (meth : Method) (c : Code) (s₁ : State) (P : Outcome → State → Prop), p.tables.exec = Jvm.exec → c.code = bytes → c.maxLocals = maxL → meth.sig.returnType = rt → meth.locks = false → s.vm.findClass y.cls = some m.cls → meth.name = y.name → Z.Warmed39 s.vm →
      Stand p l e rm s m as' below meth c s₁ [] 0 0 → s₁.heap = h0 → ck1 Q s rm.cells rm.slots P → ac0 p e below P (s₁.setTop (entryFrame m as' maxL))) :
    as0 l Z y bytes maxL rt ws rm as' h0 Q := by
  refine MetFree.of_bodySF hpl hisR ?_
  intro p e s m args below meth c s₁ Bd hml0 hP hK
  obtain ⟨rfl, hZ, hh⟩ := hP
  exact body p e s m below meth c s₁ _ Bd.exec Bd.bytes hml0 Bd.returns Bd.notSynchronized (findClass_of_methodNamed Bd.named) (name_of_methodNamed Bd.named Bd.method).1 hZ (Stand.of_body Bd) (by rw [← hh, Bd.state]; rfl) (fun v U L q f => ⟨v, L, rfl, q, f⟩)
theorem ar0 {g g' : JFrame} (q : g = g') (k : ac0 p e below P (T.setTop g')) : ac0 p e below P (T.setTop g) := q ▸ k
theorem aq4 (X : Stand p l e R s m args below meth c T locs cells slots) (hx : p.tables.exec = Jvm.exec) (hlk : meth.locks = false) {kc ks : Nat} {Q : Option Value → Heap → List Loc → Prop} (hP : ck1 Q s kc ks P)
    {pc : Nat} {Ls : Array Slot} {z : Int32} {rest : List Value} (hret : meth.sig.returnType = some .int) (hd : decode c.code pc = .ok (.ireturn, 1)) (h1 : cells ≤ kc) (h2 : slots ≤ ks) (hq : Q (some (.int z)) T.heap locs) : ac0 p e below P (T.setTop (mkF m pc Ls (.int z :: rest))) := by
  obtain ⟨fs, hr, hrun, hended, hW, hsame⟩ := X.leave (v := some (.int z)) (fun h => by rw [hret] at h; cases h) hlk
  exact ⟨_, _, retI X hx hret hd hr, hrun, hended, hP _ _ locs hq ⟨⟨_, rfl⟩, hW, hsame.mono h1 h2⟩⟩
theorem bx6 (X : Stand p l e R s m args below meth c T locs cells slots) (hx : p.tables.exec = Jvm.exec) (hlk : meth.locks = false) {kc ks : Nat} {Q : Option Value → Heap → List Loc → Prop} (hP : ck1 Q s kc ks P)
    {pc : Nat} {Ls : Array Slot} {z : Int32} {t : FieldType} {rest : List Value} (ht : t = .boolean ∨ t = .byte ∨ t = .char ∨ t = .short) (hret : meth.sig.returnType = some t) (hd : decode c.code pc = .ok (.ireturn, 1)) (h1 : cells ≤ kc) (h2 : slots ≤ ks) (hq : Q (some (.int (nar t z))) T.heap locs) : ac0 p e below P (T.setTop (mkF m pc Ls (.int z :: rest))) := by
  obtain ⟨fs, hr, hrun, hended, hW, hsame⟩ := X.leave (v := some (.int (nar t z))) (fun h => by rw [hret] at h; cases h) hlk
  exact ⟨_, _, retN X hx hret ht hd hr, hrun, hended, hP _ _ locs hq ⟨⟨_, rfl⟩, hW, hsame.mono h1 h2⟩⟩
theorem ew3 (X : Stand p l e R s m args below meth c T locs cells slots) (hx : p.tables.exec = Jvm.exec) (hlk : meth.locks = false) {kc ks : Nat} {Q : Option Value → Heap → List Loc → Prop} (hP : ck1 Q s kc ks P)
    {pc : Nat} {Ls : Array Slot} {z : Int64} {rest : List Value} (hret : meth.sig.returnType = some .long) (hd : decode c.code pc = .ok (.lreturn, 1)) (h1 : cells ≤ kc) (h2 : slots ≤ ks) (hq : Q (some (.long z)) T.heap locs) : ac0 p e below P (T.setTop (mkF m pc Ls (.long z :: rest))) := by
  obtain ⟨fs, hr, hrun, hended, hW, hsame⟩ := X.leave (v := some (.long z)) (fun h => by rw [hret] at h; cases h) hlk
  exact ⟨_, _, retOut X hx hret rfl (Or.inr (Or.inl ⟨rfl, rfl, z, rfl⟩)) hd hr, hrun, hended, hP _ _ locs hq ⟨⟨_, rfl⟩, hW, hsame.mono h1 h2⟩⟩
theorem as1 (X : Stand p l e R s m args below meth c T locs cells slots) (hx : p.tables.exec = Jvm.exec) (hlk : meth.locks = false) {kc ks : Nat} {Q : Option Value → Heap → List Loc → Prop} (hP : ck1 Q s kc ks P)
    {pc : Nat} {Ls : Array Slot} {w : Value} {t : FieldType} {rest : List Value} (hw : w.isRef = true) (ht : t.isReference = true) (hret : meth.sig.returnType = some t) (hd : decode c.code pc = .ok (.areturn, 1)) (h1 : cells ≤ kc) (h2 : slots ≤ ks) (hq : Q (some w) T.heap locs) : ac0 p e below P (T.setTop (mkF m pc Ls (w :: rest))) := by
  obtain ⟨fs, hr, hrun, hended, hW, hsame⟩ := X.leave (v := some w) (fun h => by rw [hret] at h; cases h) hlk
  have hn : narrow t w = w := by rcases ref_cases hw with rfl | ⟨a, rfl⟩ <;> cases t <;> rfl
  exact ⟨_, _, retOut X hx hret hn (Or.inr (Or.inr (Or.inr (Or.inr ⟨rfl, ht, hw⟩)))) hd hr, hrun, hended, hP _ _ locs hq ⟨⟨_, rfl⟩, hW, hsame.mono h1 h2⟩⟩
theorem at1 (X : Stand p l e R s m args below meth c T locs cells slots) (hx : p.tables.exec = Jvm.exec) (hlk : meth.locks = false) {kc ks : Nat} {Q : Option Value → Heap → List Loc → Prop} (hP : ck1 Q s kc ks P)
    {pc : Nat} {Ls : Array Slot} (hret : meth.sig.returnType = none) (hd : decode c.code pc = .ok (.return_, 1)) (h1 : cells ≤ kc) (h2 : slots ≤ ks) (hq : Q none T.heap locs) : ac0 p e below P (T.setTop (mkF m pc Ls [])) := by
  obtain ⟨fs, hr, hrun, hended, hW, hsame⟩ := X.leave (v := none) (fun _ => rfl) hlk
  exact ⟨_, _, X.returnOut hx hret hd hr, hrun, hended, hP _ _ locs hq ⟨⟨_, rfl⟩, hW, hsame.mono h1 h2⟩⟩
theorem dg5 (X : Stand p l e R s m args below meth c T locs cells slots) (hx : p.tables.exec = Jvm.exec) (hZ : Z.Warmed39 s.vm) {own : String} {index : Nat} {y : MethodName} {bytes : ByteArray} {maxL : Nat} {rt : Option FieldType} {rm : Room} {as' : Array Value} {Q : Option Value → Heap → List Loc → Prop}
    (hown : s.vm.findClass own = some m.cls) (w1 : (Jvm.Cond.methodLink own index y).before a0 Z = true) (w2 : (Jvm.Cond.static y).before a0 Z = true) (w3 : (Jvm.Cond.initialized y.cls).before a0 Z = true) (w4 : (Jvm.Cond.code y bytes maxL rt).before a0 Z = true) (hy : y.cls ≠ an8 ∧ y.cls ≠ ao8)
    (hM : as0 l Z y bytes maxL rt [] rm as' h Q) (W : Nat) (hf : rm.frames + 1 ≤ R.frames) (hl : W + (maxL + 11) + rm.locals ≤ R.locals) (eT : T.heap = h) (hc : cells + rm.cells ≤ R.cells) (hs : slots + rm.slots ≤ R.slots)
    {g : JFrame} (hg : g.method = m) (hsize : g.locals.size = c.maxLocals) {argsL rest : List Value} (ha : argsL.toArray = as') (hlen : ∀ sig, parseMethodDescriptor y.desc = some sig → argsL.length = sig.parameters.length) (hstack : g.stack = argsL.reverse ++ rest) (hW : 2 * g.monitorRoom + (rest.map fun v => v.category).sum ≤ W) (hdg : decode c.code g.pc = .ok (.invokestatic index, 3))
    (k : ∀ v T' L, Stand p l e R s m args below meth c T' (locs ++ L) (cells + rm.cells) (slots + rm.slots) → Q v T'.heap L → ac0 p e below P (T'.setTop { g with pc := g.pc + 3, stack := v.toList ++ rest })) : ac0 p e below P (T.setTop g) := by
  obtain ⟨v, vm₁, ⟨T', L', k', n'⟩, -, X', ⟨L, hQ, h1, h2, h3⟩, st⟩ := Jvm.LawKit.callS X hx hown (mvT hZ w1) (mvT hZ w2) (mvT hZ w3) (mvT hZ w4) hy (backOf (W := W) hM hZ w4 w3 hf hl) hg hsize hlen hstack hW hdg (fun _ _ => ⟨ha, eT, hc, hs⟩)
  dsimp only [Pt.U, Pt.locs, Pt.cells, Pt.slots] at X' h1 h2 h3 st hQ
  subst h1 h2 h3
  exact ae1 st (k v T' L X' hQ)
theorem dh5 (X : Stand p l e R s m args below meth c T locs cells slots) (hx : p.tables.exec = Jvm.exec) (hZ : Z.Warmed39 s.vm) {own : String} {index : Nat} {y : MethodName} {bytes : ByteArray} {maxL : Nat} {rm : Room} {as' : Array Value} {Q : Option Value → Heap → List Loc → Prop}
    (hy1 : y.name = "<init>") (hown : s.vm.findClass own = some m.cls) (w1 : (Jvm.Cond.methodLink own index y).before a0 Z = true) (w2 : (Jvm.Cond.instanceMethod y).before a0 Z = true) (w3 : (Jvm.Cond.initialized y.cls).before a0 Z = true) (w4 : (Jvm.Cond.code y bytes maxL none).before a0 Z = true) (hy : y.cls ≠ an8 ∧ y.cls ≠ ao8)
    (hM : as0 l Z y bytes maxL none [] rm as' h Q) (W : Nat) (hf : rm.frames + 1 ≤ R.frames) (hl : W + (maxL + 11) + rm.locals ≤ R.locals) (eT : T.heap = h) (hc : cells + rm.cells ≤ R.cells) (hs : slots + rm.slots ≤ R.slots)
    {g : JFrame} (hg : g.method = m) (hsize : g.locals.size = c.maxLocals) {a : Addr} {argsL rest : List Value} (ha : (Value.ref a :: argsL).toArray = as') (hlen : ∀ sig, parseMethodDescriptor y.desc = some sig → argsL.length = sig.parameters.length) (hstack : g.stack = argsL.reverse ++ .ref a :: rest) (hW : 2 * g.monitorRoom + (rest.map fun v => v.category).sum ≤ W) (hdg : decode c.code g.pc = .ok (.invokespecial index, 3))
    (k : ∀ v T' L, Stand p l e R s m args below meth c T' (locs ++ L) (cells + rm.cells) (slots + rm.slots) → Q v T'.heap L → ac0 p e below P (T'.setTop { g with pc := g.pc + 3, stack := v.toList ++ rest })) : ac0 p e below P (T.setTop g) := by
  obtain ⟨v, vm₁, ⟨T', L', k', n'⟩, -, X', ⟨L, hQ, h1, h2, h3⟩, st⟩ := X.specialBack hx hy1 hown (mvT hZ w1) (mvT hZ w2) (mvT hZ w4) hy (backOf (W := W) hM hZ w4 w3 hf hl) hg hsize (Steps.refl _) hlen hstack hW hdg (fun _ _ => ⟨ha, eT, hc, hs⟩)
  dsimp only [Pt.U, Pt.locs, Pt.cells, Pt.slots] at X' h1 h2 h3 st hQ
  subst h1 h2 h3
  exact by2 st (k v T' L X' hQ)
theorem di5 (X : Stand p l e R s m args below meth c T locs cells slots) (hx : p.tables.exec = Jvm.exec) (hZ : Z.Warmed39 s.vm) {own C : String} {index : Nat} {y z : MethodName} {bytes : ByteArray} {maxL : Nat} {rt : Option FieldType} {rm : Room} {as' : Array Value} {Q : Option Value → Heap → List Loc → Prop}
    (hown : s.vm.findClass own = some m.cls) (w1 : (Jvm.Cond.methodLink own index y).before a0 Z = true) (w2 : (Jvm.Cond.declares y).before a0 Z = true) (hnf : NotFace s y) (w5 : (Jvm.Cond.selects C y z).before a0 Z = true) (w6 : (Jvm.Cond.instanceMethod z).before a0 Z = true) (w3 : (Jvm.Cond.initialized z.cls).before a0 Z = true) (w4 : (Jvm.Cond.code z bytes maxL rt).before a0 Z = true) (hy : y.cls ≠ an8 ∧ y.cls ≠ ao8)
    {a : Addr} (E : Exa Z h a C) (hM : as0 l Z z bytes maxL rt [] rm as' h Q) (W : Nat) (hf : rm.frames + 1 ≤ R.frames) (hl : W + (maxL + 11) + rm.locals ≤ R.locals) (eT : T.heap = h) (hc : cells + rm.cells ≤ R.cells) (hs : slots + rm.slots ≤ R.slots)
    {g : JFrame} (hg : g.method = m) (hsize : g.locals.size = c.maxLocals) {argsL rest : List Value} (ha : (Value.ref a :: argsL).toArray = as') (hlen : ∀ sig, parseMethodDescriptor y.desc = some sig → argsL.length = sig.parameters.length) (hstack : g.stack = argsL.reverse ++ .ref a :: rest) (hW : 2 * g.monitorRoom + (rest.map fun v => v.category).sum ≤ W) (hdg : decode c.code g.pc = .ok (.invokevirtual index, 3))
    (k : ∀ v T' L, Stand p l e R s m args below meth c T' (locs ++ L) (cells + rm.cells) (slots + rm.slots) → Q v T'.heap L → ac0 p e below P (T'.setTop { g with pc := g.pc + 3, stack := v.toList ++ rest })) : ac0 p e below P (T.setTop g) := by
  obtain ⟨cB, kB, q1, q2, q3⟩ := isOf hZ eT E
  obtain ⟨v, vm₁, ⟨T', L', k', n'⟩, -, X', ⟨L, hQ, h1, h2, h3⟩, st⟩ := X.virtualBack hx (y := y) (z := z) hown (mvT hZ w1) (mvT hZ w2) hnf (mvT hZ w5) (mvT hZ w6) hy (backOf (W := W) hM hZ w4 w3 hf hl) q1 q3 hg hsize (Steps.refl _) hlen hstack hW hdg (fun _ _ => ⟨ha, eT, hc, hs⟩)
  dsimp only [Pt.U, Pt.locs, Pt.cells, Pt.slots] at X' h1 h2 h3 st hQ
  subst h1 h2 h3
  exact by2 st (k v T' L X' hQ)
theorem ef3 (X : Stand p l e R s m args below meth c T locs cells slots) (hx : p.tables.exec = Jvm.exec) (hZ : Z.Warmed39 s.vm) {own C owner : String} {index : Nat} {x y : MethodName} {bytes : ByteArray} {maxL : Nat} {rt : Option FieldType} {rm : Room} {as' : Array Value} {Q : Option Value → Heap → List Loc → Prop}
    (hown : s.vm.findClass own = some m.cls) (w1 : (Jvm.Cond.methodLink own index x).before a0 Z = true) (w2 : (Jvm.Cond.sameMethod x.cls owner x.name x.desc).before a0 Z = true) (w7 : (Jvm.Cond.declares ⟨owner, x.name, x.desc⟩).before a0 Z = true) (hy : owner ≠ an8 ∧ owner ≠ ao8) (w5 : (Jvm.Cond.selects C x y).before a0 Z = true) (w6 : (Jvm.Cond.instanceMethod y).before a0 Z = true) (w3 : (Jvm.Cond.initialized y.cls).before a0 Z = true) (w4 : (Jvm.Cond.code y bytes maxL rt).before a0 Z = true)
    {a : Addr} (E : Exa Z h a C) (hM : as0 l Z y bytes maxL rt [] rm as' h Q) (W : Nat) (hf : rm.frames + 1 ≤ R.frames) (hl : W + (maxL + 11) + rm.locals ≤ R.locals) (eT : T.heap = h) (hc : cells + rm.cells ≤ R.cells) (hs : slots + rm.slots ≤ R.slots)
    {g : JFrame} (hg : g.method = m) (hsize : g.locals.size = c.maxLocals) {argsL rest : List Value} (ha : (Value.ref a :: argsL).toArray = as') (hlen : ∀ sig, parseMethodDescriptor x.desc = some sig → argsL.length = sig.parameters.length) (hstack : g.stack = argsL.reverse ++ .ref a :: rest) (hW : 2 * g.monitorRoom + (rest.map fun v => v.category).sum ≤ W) (hdg : decode c.code g.pc = .ok (.invokevirtual index, 3))
    (k : ∀ v T' L, Stand p l e R s m args below meth c T' (locs ++ L) (cells + rm.cells) (slots + rm.slots) → Q v T'.heap L → ac0 p e below P (T'.setTop { g with pc := g.pc + 3, stack := v.toList ++ rest })) : ac0 p e below P (T.setTop g) := by
  obtain ⟨cB, kB, q1, q2, q3⟩ := isOf hZ eT E
  obtain ⟨v, vm₁, ⟨T', L', k', n'⟩, -, X', ⟨L, hQ, h1, h2, h3⟩, st⟩ := X.virtualBackUp hx (x := x) (y := y) hown (mvT hZ w1) (mvT hZ w2) (mvT hZ w7) hy (mvT hZ w5) (mvT hZ w6) (backOf (W := W) hM hZ w4 w3 hf hl) q1 q3 hg hsize (Steps.refl _) hlen hstack hW hdg (fun _ _ => ⟨ha, eT, hc, hs⟩)
  dsimp only [Pt.U, Pt.locs, Pt.cells, Pt.slots] at X' h1 h2 h3 st hQ
  subst h1 h2 h3
  exact by2 st (k v T' L X' hQ)
theorem ah6 {a : Addr} {C : String} (E : Exa Z h a C) : ∃ c : Cell, h[a]? = some c ∧ c.vm.isStatics = false := by obtain ⟨c, k, h1, -, -, h4, -⟩ := E; exact ⟨c, h1, h4⟩
theorem an2 {h' : Heap} {C n d : String} {v : Value} {ws : List Addr} (F : Sta Z h C n d v) (K : Keep h h' ws) (q : ∀ w ∈ ws, ∃ c : Cell, h[w]? = some c ∧ c.vm.isStatics = false) : Sta Z h' C n d v := by
  obtain ⟨cf, i, k, f, st, cell, h1, h2, h3, h4, h5, h6, h7⟩ := F
  refine ⟨cf, i, k, f, st, cell, h1, h2, h3, h4, K.2.1 st cell h5 (fun hm => ?_), h6, h7⟩
  obtain ⟨c', e1, e2⟩ := q st hm
  cases h5.symm.trans e1
  rw [h6] at e2; cases e2
theorem eg3 (X : Stand p l e R s m args below meth c T locs cells slots) (hx : p.tables.exec = Jvm.exec) {pc : Nat} {Ls : Array Slot} {rest : List Value} {x : Int64} (hd : decode c.code pc = .ok (.pop2, 1)) (k : ac0 p e below P (T.setTop (mkF m (pc + 1) Ls rest))) : ac0 p e below P (T.setTop (mkF m pc Ls (.long x :: rest))) :=
  ae1 (fun _ r => by
    show Steps p.tables e below (T.setTop { method := m, pc := pc, locals := Ls, stack := .long x :: rest, locked := none }) _
    jvm_step X.here [X.here.top, hx, hd, Value.category]
    exact r) k
theorem ea2 {y z : MethodName} (hz : z.cls = y.cls) (hy : y.cls ≠ an8 ∧ y.cls ≠ ao8) (w5 : (Jvm.Cond.selects y.cls z z).before args s = true) (wi : (Jvm.Cond.instanceMethod y).before args s = true) (hp : s.PrivateAt y) : (Jvm.Cond.selects y.cls y y).before args s = true := by
  obtain ⟨mk, mm, hn, hm, -, -⟩ := Cond.instanceMethod_spec wi
  obtain ⟨c2, r2, m2, -, -, q3, -, kP, hk, hi⟩ := Cond.selects_spec w5
  have a1 := findClass_of_methodNamed hn
  have a2 := findClass_of_methodNamed q3
  rw [hz] at a2
  have e : m2.cls = mk.cls := Option.some.inj (a2.symm.trans a1)
  rw [e] at hk
  have hs : selectMethod {} s.vm mk.cls mk = .method mk := selectMethod_private hm (hp mk mm hn hm)
  have hf := State.methodFound?_of_named hn hy
  simp [Cond.before, Cond.holds, Cond.value, a1, hf, hn, hs, hk, hi]
theorem eh3 (X : Stand p l e R s m args below meth c T locs cells slots) (hx : p.tables.exec = Jvm.exec) (hZ : Z.Warmed39 s.vm) {own : String} {index : Nat} {y z : MethodName} {bytes : ByteArray} {maxL : Nat} {rt : Option FieldType} {rm : Room} {as' : Array Value} {Q : Option Value → Heap → List Loc → Prop}
    (hown : s.vm.findClass own = some m.cls) (w1 : (Jvm.Cond.methodLink own index y).before a0 Z = true) (w2 : (Jvm.Cond.instanceMethod y).before a0 Z = true) (hz : z.cls = y.cls) (w5 : (Jvm.Cond.selects y.cls z z).before a0 Z = true) (w6 : (Jvm.Cond.privateMethod y).before a0 Z = true) (w3 : (Jvm.Cond.initialized y.cls).before a0 Z = true) (w4 : (Jvm.Cond.code y bytes maxL rt).before a0 Z = true) (hy : y.cls ≠ an8 ∧ y.cls ≠ ao8)
    {C : String} {a : Addr} (E : Exa Z h a C) (hM : as0 l Z y bytes maxL rt [] rm as' h Q) (W : Nat) (hf : rm.frames + 1 ≤ R.frames) (hl : W + (maxL + 11) + rm.locals ≤ R.locals) (eT : T.heap = h) (hc : cells + rm.cells ≤ R.cells) (hs : slots + rm.slots ≤ R.slots)
    {g : JFrame} (hg : g.method = m) (hsize : g.locals.size = c.maxLocals) {argsL rest : List Value} (ha : (Value.ref a :: argsL).toArray = as') (hlen : ∀ sig, parseMethodDescriptor y.desc = some sig → argsL.length = sig.parameters.length) (hstack : g.stack = argsL.reverse ++ .ref a :: rest) (hW : 2 * g.monitorRoom + (rest.map fun v => v.category).sum ≤ W) (hdg : decode c.code g.pc = .ok (.invokevirtual index, 3))
    (k : ∀ v T' L, Stand p l e R s m args below meth c T' (locs ++ L) (cells + rm.cells) (slots + rm.slots) → Q v T'.heap L → ac0 p e below P (T'.setTop { g with pc := g.pc + 3, stack := v.toList ++ rest })) : ac0 p e below P (T.setTop g) := by
  obtain ⟨cq, q1, q2⟩ := E.cell
  have hp : s.PrivateAt y := Cond.privateMethod_at (mvP hZ w6 (args := args))
  obtain ⟨v, vm₁, ⟨T', L', k', n'⟩, -, X', ⟨L, hQ, h1, h2, h3⟩, st⟩ := X.privateBack hx (y := y) hown (mvT hZ w1) (mvT hZ w2) (ea2 hz hy (mvT hZ w5) (mvT hZ w2) hp) hp (mvT hZ w4) hy (backOf (W := W) hM hZ w4 w3 hf hl) hg hsize (Steps.refl _) (a := a) (by rw [eT]; exact q1) q2 hlen hstack hW hdg (fun _ _ => ⟨ha, eT, hc, hs⟩)
  dsimp only [Pt.U, Pt.locs, Pt.cells, Pt.slots] at X' h1 h2 h3 st hQ
  subst h1 h2 h3
  exact by2 st (k v T' L X' hQ)
theorem eg4 (X : Stand p l e R s m args below meth c T locs cells slots) (hx : p.tables.exec = Jvm.exec) {pc len pc' : Nat} {Ls : Array Slot} {rest : List Value} {dflt low high o : Int} {offs : Array Int} {i : Int32} (hd : decode c.code pc = .ok (.tableswitch dflt low high offs, len)) (hin : ¬ (i.toInt < low ∨ i.toInt > high)) (hoff : offs[(i.toInt - low).toNat]? = some o) (ho : 0 ≤ (pc : Int) + o) (hp : ((pc : Int) + o).toNat = pc')
    (k : ac0 p e below P (T.setTop (mkF m pc' Ls rest))) : ac0 p e below P (T.setTop (mkF m pc Ls (.int i :: rest))) :=
  ae1 (fun _ r => XS.tswIn (g := mkF m pc Ls (.int i :: rest)) X.here hx rfl rfl hd rfl hin hoff ho hp r) k
theorem ep4 {x y : Int64} : lcmpW x y < 0 ↔ x < y := by rw [lcW]; exact lc_lt x y
theorem er4 {x y : Int64} : 0 < lcmpW x y ↔ y < x := by rw [lcW]; exact lc_gt x y
theorem es4 {x y : Int64} : lcmpW x y = 0 ↔ x = y := by rw [lcW]; exact lc_eq x y
theorem ej3 {first : State} {o : Option Outcome} {idx : List Nat} {t : Term} {k : Int32} (q : (Jvm.Cond.eq t (.int k)).value args first o s idx = some true) : t.eval args first o idx s = some (.int k) := by
  obtain ⟨x, y, e1, e2, k1, k2⟩ := cmp_v (Or.inl q)
  rw [Term.int_eval] at e2
  cases e2
  obtain ⟨z, rfl⟩ := k2
  rw [e1, gotT (Cond.eq_ints e1 (Term.int_eval k)) q]
end Own
/-! walks that may load String constants: the end is the wide one -/
def bl7 (Q : Option Value → Heap → List Loc → Prop) (s : State) (kc ks : Nat) (P : Outcome → State → Prop) : Prop := ∀ v U L, Q v U.heap L → ReturnedEndW s (.returned v) U L kc ks → P (.returned v) U
abbrev cq4 (l : Launch) (Z : State) (y : MethodName) (bytes : ByteArray) (maxL : Nat) (rt : Option FieldType) (ws : List Jvm.Cond) (rm : Room) (as' : Array Value) (h0 : Heap) (Q : Option Value → Heap → List Loc → Prop) : Prop :=
  MetFree l y (head1 (Jvm.Cond.code y bytes maxL rt :: ws) rm) (fun a U => a = as' ∧ Z.Warmed39 U.vm ∧ U.heap = h0) (fun _ _ _ _ _ => True) (fun _ U o U' => ∃ v L, o = .returned v ∧ Q v U'.heap L ∧ ReturnedEndW U o U' L rm.cells rm.slots)
section OwnW
variable {p : Program} {l : Launch} {e : Env} {R : Room} {s : State} {m : MethodId} {args : Array Value} {below : List Frame} {meth : Method} {c : Code} {T : State} {locs : List Loc} {cells slots : Nat} {Z : State} {a0 : Array Value} {h : Heap} {P : Outcome → State → Prop} {vm0 : Vm} {k0 : Nat}
theorem ev2 {y : MethodName} {bytes : ByteArray} {maxL : Nat} {rt : Option FieldType} {ws : List Jvm.Cond} {rm : Room} {as' : Array Value} {h0 : Heap} {Q : Option Value → Heap → List Loc → Prop} (hpl : plainFor y = true)
    (body : ∀ (p : Program) (e : Env) (s : State) (m : MethodId) (below : List Frame) (meth : Method) (c : Code) (s₁ : State) (P : Outcome → State → Prop) (vm0 : Vm) (k0 : Nat), p.tables.exec = Jvm.exec → c.code = bytes → c.maxLocals = maxL → meth.sig.returnType = rt → meth.locks = false → (s.setVm vm0).vm.findClass y.cls = some m.cls → meth.name = y.name → Z.Warmed39 (s.setVm vm0).vm →
      Stand p l e rm (s.setVm vm0) m as' below meth c s₁ [] 0 0 → s₁.heap = h0 → s.Since vm0 k0 → k0 ≤ h0.size → bl7 Q s rm.cells rm.slots P → ac0 p e below P (s₁.setTop (entryFrame m as' maxL))) :
    cq4 l Z y bytes maxL rt ws rm as' h0 Q := by
  refine MetFree.of_bodySF hpl hisR ?_
  intro p e s m args below meth c s₁ Bd hml0 hP hK
  obtain ⟨rfl, hZ, hh⟩ := hP
  exact body p e s m below meth c s₁ _ s.vm s.heap.size Bd.exec Bd.bytes hml0 Bd.returns Bd.notSynchronized (findClass_of_methodNamed Bd.named) (name_of_methodNamed Bd.named Bd.method).1 hZ (Stand.of_body Bd) (by rw [← hh, Bd.state]; rfl) ((State.WarmedH.refl s).since _) (by rw [hh]; exact Nat.le_refl _) (fun v U L q f => ⟨v, L, rfl, q, f⟩)
theorem bg1 {U : State} {o : Outcome} {L : List Loc} {k n k' n' : Nat} (q : ReturnedEndW s o U L k n) (h1 : k ≤ k') (h2 : n ≤ n') : ReturnedEndW s o U L k' n' := ⟨q.1, q.2.1, q.2.2.1, q.2.2.2.mono h1 h2⟩
theorem ek3 (X : Stand p l e R (s.setVm vm0) m args below meth c T locs cells slots) (hS : s.Since vm0 k0) (hk : k0 ≤ h.size) (eT : T.heap = h) (hx : p.tables.exec = Jvm.exec) (hlk : meth.locks = false) {kc ks : Nat} {Q : Option Value → Heap → List Loc → Prop} (hP : bl7 Q s kc ks P)
    {pc : Nat} {Ls : Array Slot} (hret : meth.sig.returnType = none) (hd : decode c.code pc = .ok (.return_, 1)) (h1 : cells ≤ kc) (h2 : slots ≤ ks) (hq : Q none T.heap locs) : ac0 p e below P (T.setTop (mkF m pc Ls [])) := by
  obtain ⟨fs, hr, hrun, hended, hW⟩ := X.leaveW hS (by rw [eT]; exact hk) (v := none) (fun _ => rfl) hlk
  exact ⟨_, _, X.returnOut hx hret hd hr, hrun, hended, hP _ _ locs hq (bg1 hW h1 h2)⟩
theorem dj5 (X : Stand p l e R (s.setVm vm0) m args below meth c T locs cells slots) (hS : s.Since vm0 k0) (hk : k0 ≤ h.size) (eT : T.heap = h) (hx : p.tables.exec = Jvm.exec) (hlk : meth.locks = false) {kc ks : Nat} {Q : Option Value → Heap → List Loc → Prop} (hP : bl7 Q s kc ks P)
    {pc : Nat} {Ls : Array Slot} {z : Int32} {t : FieldType} {rest : List Value} (ht : t = .boolean ∨ t = .byte ∨ t = .char ∨ t = .short) (hret : meth.sig.returnType = some t) (hd : decode c.code pc = .ok (.ireturn, 1)) (h1 : cells ≤ kc) (h2 : slots ≤ ks) (hq : Q (some (.int (nar t z))) T.heap locs) : ac0 p e below P (T.setTop (mkF m pc Ls (.int z :: rest))) := by
  obtain ⟨fs, hr, hrun, hended, hW⟩ := X.leaveW hS (by rw [eT]; exact hk) (v := some (.int (nar t z))) (fun h => by rw [hret] at h; cases h) hlk
  exact ⟨_, _, retN X hx hret ht hd hr, hrun, hended, hP _ _ locs hq (bg1 hW h1 h2)⟩
theorem el3 (X : Stand p l e R (s.setVm vm0) m args below meth c T locs cells slots) (hS : s.Since vm0 k0) (hk : k0 ≤ h.size) (eT : T.heap = h) (hx : p.tables.exec = Jvm.exec) (hlk : meth.locks = false) {kc ks : Nat} {Q : Option Value → Heap → List Loc → Prop} (hP : bl7 Q s kc ks P)
    {pc : Nat} {Ls : Array Slot} {z : Int32} {rest : List Value} (hret : meth.sig.returnType = some .int) (hd : decode c.code pc = .ok (.ireturn, 1)) (h1 : cells ≤ kc) (h2 : slots ≤ ks) (hq : Q (some (.int z)) T.heap locs) : ac0 p e below P (T.setTop (mkF m pc Ls (.int z :: rest))) := by
  obtain ⟨fs, hr, hrun, hended, hW⟩ := X.leaveW hS (by rw [eT]; exact hk) (v := some (.int z)) (fun h => by rw [hret] at h; cases h) hlk
  exact ⟨_, _, retI X hx hret hd hr, hrun, hended, hP _ _ locs hq (bg1 hW h1 h2)⟩
theorem em3 (X : Stand p l e R (s.setVm vm0) m args below meth c T locs cells slots) (hS : s.Since vm0 k0) (hk : k0 ≤ h.size) (eT : T.heap = h) (hx : p.tables.exec = Jvm.exec) (hlk : meth.locks = false) {kc ks : Nat} {Q : Option Value → Heap → List Loc → Prop} (hP : bl7 Q s kc ks P)
    {pc : Nat} {Ls : Array Slot} {w : Value} {t : FieldType} {rest : List Value} (hw : w.isRef = true) (ht : t.isReference = true) (hret : meth.sig.returnType = some t) (hd : decode c.code pc = .ok (.areturn, 1)) (h1 : cells ≤ kc) (h2 : slots ≤ ks) (hq : Q (some w) T.heap locs) : ac0 p e below P (T.setTop (mkF m pc Ls (w :: rest))) := by
  obtain ⟨fs, hr, hrun, hended, hW⟩ := X.leaveW hS (by rw [eT]; exact hk) (v := some w) (fun h => by rw [hret] at h; cases h) hlk
  have hn : narrow t w = w := by rcases ref_cases hw with rfl | ⟨a, rfl⟩ <;> cases t <;> rfl
  exact ⟨_, _, retOut X hx hret hn (Or.inr (Or.inr (Or.inr (Or.inr ⟨rfl, ht, hw⟩)))) hd hr, hrun, hended, hP _ _ locs hq (bg1 hW h1 h2)⟩
theorem ew2 (X : Stand p l e R (s.setVm vm0) m args below meth c T locs cells slots) (hS : s.Since vm0 k0) (hk : k0 ≤ h.size) (hx : p.tables.exec = Jvm.exec) (hZ : Z.Warmed39 (s.setVm vm0).vm) {own : String} {index : Nat} {y : MethodName} {bytes : ByteArray} {maxL : Nat} {rm : Room} {as' : Array Value} {Q : Option Value → Heap → List Loc → Prop}
    (hy1 : y.name = "<init>") (hown : (s.setVm vm0).vm.findClass own = some m.cls) (w1 : (Jvm.Cond.methodLink own index y).before a0 Z = true) (w2 : (Jvm.Cond.instanceMethod y).before a0 Z = true) (w3 : (Jvm.Cond.initialized y.cls).before a0 Z = true) (w4 : (Jvm.Cond.code y bytes maxL none).before a0 Z = true) (hy : y.cls ≠ an8 ∧ y.cls ≠ ao8)
    (hM : cq4 l Z y bytes maxL none [] rm as' h Q) (W : Nat) (hf : rm.frames + 1 ≤ R.frames) (hl : W + (maxL + 11) + rm.locals ≤ R.locals) (eT : T.heap = h) (hc : cells + rm.cells ≤ R.cells) (hs : slots + rm.slots ≤ R.slots)
    {g : JFrame} (hg : g.method = m) (hsize : g.locals.size = c.maxLocals) {a : Addr} {argsL rest : List Value} (ha : (Value.ref a :: argsL).toArray = as') (hlen : ∀ sig, parseMethodDescriptor y.desc = some sig → argsL.length = sig.parameters.length) (hstack : g.stack = argsL.reverse ++ .ref a :: rest) (hW : 2 * g.monitorRoom + (rest.map fun v => v.category).sum ≤ W) (hdg : decode c.code g.pc = .ok (.invokespecial index, 3))
    (k : ∀ v T' L, Stand p l e R (s.setVm T'.vm) m args below meth c T' (locs ++ L) (cells + rm.cells) (slots + rm.slots) → Q v T'.heap L → s.Since T'.vm T'.heap.size → Z.Warmed39 (s.setVm T'.vm).vm → (s.setVm T'.vm).vm.findClass own = some m.cls → ac0 p e below P (T'.setTop { g with pc := g.pc + 3, stack := v.toList ++ rest })) : ac0 p e below P (T.setTop g) := by
  obtain ⟨v, vm₁, ⟨T', L', k', n'⟩, -, X', hS', hg', ⟨L, hQ, h1, h2, h3⟩, st⟩ := X.specialBackS hx hy1 hown (mvT hZ w1) (mvT hZ w2) (mvT hZ w4) hy (backOfS (W := W) hM hZ w4 w3 hf hl) hg hsize (Steps.refl _) hlen hstack hW hdg (fun _ _ => ⟨ha, eT, hc, hs⟩)
  dsimp only [Pt.U, Pt.locs, Pt.cells, Pt.slots] at X' h1 h2 h3 st hQ hS' hg'
  subst h1 h2 h3
  obtain ⟨q1, q2, q3, q4⟩ := rebS hS (by rw [← eT] at hk; exact hk) X' hS' hg' hZ hown
  exact by2 st (k v T' L q1 hQ q2 q3 q4)
theorem ex2 (X : Stand p l e R (s.setVm vm0) m args below meth c T locs cells slots) (hS : s.Since vm0 k0) (hk : k0 ≤ h.size) (hx : p.tables.exec = Jvm.exec) (hZ : Z.Warmed39 (s.setVm vm0).vm) {own : String} {index : Nat} {y : MethodName} {bytes : ByteArray} {maxL : Nat} {rt : Option FieldType} {rm : Room} {as' : Array Value} {Q : Option Value → Heap → List Loc → Prop}
    (hown : (s.setVm vm0).vm.findClass own = some m.cls) (w1 : (Jvm.Cond.methodLink own index y).before a0 Z = true) (w2 : (Jvm.Cond.static y).before a0 Z = true) (w3 : (Jvm.Cond.initialized y.cls).before a0 Z = true) (w4 : (Jvm.Cond.code y bytes maxL rt).before a0 Z = true) (hy : y.cls ≠ an8 ∧ y.cls ≠ ao8)
    (hM : cq4 l Z y bytes maxL rt [] rm as' h Q) (W : Nat) (hf : rm.frames + 1 ≤ R.frames) (hl : W + (maxL + 11) + rm.locals ≤ R.locals) (eT : T.heap = h) (hc : cells + rm.cells ≤ R.cells) (hs : slots + rm.slots ≤ R.slots)
    {g : JFrame} (hg : g.method = m) (hsize : g.locals.size = c.maxLocals) {argsL rest : List Value} (ha : argsL.toArray = as') (hlen : ∀ sig, parseMethodDescriptor y.desc = some sig → argsL.length = sig.parameters.length) (hstack : g.stack = argsL.reverse ++ rest) (hW : 2 * g.monitorRoom + (rest.map fun v => v.category).sum ≤ W) (hdg : decode c.code g.pc = .ok (.invokestatic index, 3))
    (k : ∀ v T' L, Stand p l e R (s.setVm T'.vm) m args below meth c T' (locs ++ L) (cells + rm.cells) (slots + rm.slots) → Q v T'.heap L → s.Since T'.vm T'.heap.size → Z.Warmed39 (s.setVm T'.vm).vm → (s.setVm T'.vm).vm.findClass own = some m.cls → ac0 p e below P (T'.setTop { g with pc := g.pc + 3, stack := v.toList ++ rest })) : ac0 p e below P (T.setTop g) := by
  obtain ⟨v, vm₁, ⟨T', L', k', n'⟩, -, X', hS', hg', ⟨L, hQ, h1, h2, h3⟩, st⟩ := callSS X hx hown (mvT hZ w1) (mvT hZ w2) (mvT hZ w3) (mvT hZ w4) hy (backOfS (W := W) hM hZ w4 w3 hf hl) hg hsize hlen hstack hW hdg (fun _ _ => ⟨ha, eT, hc, hs⟩)
  dsimp only [Pt.U, Pt.locs, Pt.cells, Pt.slots] at X' h1 h2 h3 st hQ hS' hg'
  subst h1 h2 h3
  obtain ⟨q1, q2, q3, q4⟩ := rebS hS (by rw [← eT] at hk; exact hk) X' hS' hg' hZ hown
  exact by2 st (k v T' L q1 hQ q2 q3 q4)
end OwnW
theorem bz2 {Z : State} {a0 : Array Value} (hw : ∀ d ∈ tables_1, d.before a0 Z = true) : ∀ a ∈ Bundle.stringAtoms, a.before a0 Z = true := by
  intro d hd
  simp only [Bundle.stringAtoms, List.mem_cons, List.not_mem_nil, or_false] at hd
  rcases hd with rfl | rfl | rfl | rfl | rfl | rfl | rfl
  · exact (z_w hw 16 rfl)
  · exact (z_w hw 17 rfl)
  · exact (z_w hw 18 rfl)
  · exact (z_w hw 19 rfl)
  · exact (z_w hw 20 rfl)
  · exact (z_w hw 21 rfl)
  · exact (z_w hw 22 rfl)
/-! walks that read String constants: the library's invariant CHv rides along -/
def cj4 (Z : State) (EL : List (String × Nat)) (Q : Option Value → Heap → List Loc → Prop) (s : State) (kc ks : Nat) (P : Outcome → State → Prop) : Prop := ∀ v U L, Q v U.heap L → CHr Z EL s.vm s.heap U.vm U.heap → ReturnedEndW s (.returned v) U L kc ks → P (.returned v) U
abbrev al9 (l : Launch) (Z : State) (EL : List (String × Nat)) (y : MethodName) (bytes : ByteArray) (maxL : Nat) (rt : Option FieldType) (ws : List Jvm.Cond) (rm : Room) (as' : Array Value) (h0 : Heap) (Q : Option Value → Heap → List Loc → Prop) : Prop :=
  MetFree l y (head1 (Jvm.Cond.code y bytes maxL rt :: ws) rm) (fun a U => a = as' ∧ Z.Warmed39 U.vm ∧ U.heap = h0 ∧ CHv Z EL U.vm h0) (fun _ _ _ _ _ => True) (fun _ U o U' => ∃ v L, o = .returned v ∧ Q v U'.heap L ∧ CHr Z EL U.vm U.heap U'.vm U'.heap ∧ ReturnedEndW U o U' L rm.cells rm.slots)
section OwnH
variable {p : Program} {l : Launch} {e : Env} {R : Room} {s : State} {m : MethodId} {args : Array Value} {below : List Frame} {meth : Method} {c : Code} {T : State} {locs : List Loc} {cells slots : Nat} {Z : State} {a0 : Array Value} {h : Heap} {P : Outcome → State → Prop} {vm0 : Vm} {k0 : Nat} {EL : List (String × Nat)}
theorem bo1 {y : MethodName} {bytes : ByteArray} {maxL : Nat} {rt : Option FieldType} {ws : List Jvm.Cond} {rm : Room} {as' : Array Value} {h0 : Heap} {Q : Option Value → Heap → List Loc → Prop} (hpl : plainFor y = true)
    (body : ∀ (p : Program) (e : Env) (s : State) (m : MethodId) (below : List Frame) (meth : Method) (c : Code) (s₁ : State) (P : Outcome → State → Prop) (vm0 : Vm) (k0 : Nat), p.tables.exec = Jvm.exec → c.code = bytes → c.maxLocals = maxL → meth.sig.returnType = rt → meth.locks = false → (s.setVm vm0).vm.findClass y.cls = some m.cls → meth.name = y.name → Z.Warmed39 (s.setVm vm0).vm →
      Stand p l e rm (s.setVm vm0) m as' below meth c s₁ [] 0 0 → s₁.heap = h0 → s.Since vm0 k0 → k0 ≤ h0.size → CHr Z EL s.vm s.heap vm0 h0 → cj4 Z EL Q s rm.cells rm.slots P → ac0 p e below P (s₁.setTop (entryFrame m as' maxL))) :
    al9 l Z EL y bytes maxL rt ws rm as' h0 Q := by
  refine MetFree.of_bodySF hpl hisR ?_
  intro p e s m args below meth c s₁ Bd hml0 hP hK
  obtain ⟨rfl, hZ, hh, hC⟩ := hP
  exact body p e s m below meth c s₁ _ s.vm s.heap.size Bd.exec Bd.bytes hml0 Bd.returns Bd.notSynchronized (findClass_of_methodNamed Bd.named) (name_of_methodNamed Bd.named Bd.method).1 hZ (Stand.of_body Bd) (by rw [← hh, Bd.state]; rfl) ((State.WarmedH.refl s).since _) (by rw [hh]; exact Nat.le_refl _) (by subst hh; exact CHr.refl hC) (fun v U L q r f => ⟨v, L, rfl, q, r, f⟩)
theorem en3 (X : Stand p l e R (s.setVm vm0) m args below meth c T locs cells slots) (hS : s.Since vm0 k0) (hk : k0 ≤ h.size) (eT : T.heap = h) (hZ : Z.Warmed39 (s.setVm vm0).vm) (hEL : EW Z a0 EL) (hC : CHr Z EL s.vm s.heap vm0 h) (hx : p.tables.exec = Jvm.exec) (hlk : meth.locks = false) {kc ks : Nat} {Q : Option Value → Heap → List Loc → Prop} (hP : cj4 Z EL Q s kc ks P)
    {pc : Nat} {Ls : Array Slot} {z : Int32} {t : FieldType} {rest : List Value} (ht : t = .boolean ∨ t = .byte ∨ t = .char ∨ t = .short) (hret : meth.sig.returnType = some t) (hd : decode c.code pc = .ok (.ireturn, 1)) (h1 : cells ≤ kc) (h2 : slots ≤ ks) (hq : Q (some (.int (nar t z))) T.heap locs) : ac0 p e below P (T.setTop (mkF m pc Ls (.int z :: rest))) := by
  obtain ⟨fs, hr, hrun, hended, hW⟩ := X.leaveW hS (by rw [eT]; exact hk) (v := some (.int (nar t z))) (fun h => by rw [hret] at h; cases h) hlk
  have q : CHr Z EL s.vm s.heap T.vm T.heap := by rw [eT]; exact hC.trans (CHv.at X hZ hEL hC.1)
  exact ⟨_, _, retN X hx hret ht hd hr, hrun, hended, hP _ _ locs hq q (bg1 hW h1 h2)⟩
theorem ab5 (X : Stand p l e R (s.setVm vm0) m args below meth c T locs cells slots) (hS : s.Since vm0 k0) (hk : k0 ≤ h.size) (eT : T.heap = h) (hZ : Z.Warmed39 (s.setVm vm0).vm) (hEL : EW Z a0 EL) (hC : CHr Z EL s.vm s.heap vm0 h) (hx : p.tables.exec = Jvm.exec) (hlk : meth.locks = false) {kc ks : Nat} {Q : Option Value → Heap → List Loc → Prop} (hP : cj4 Z EL Q s kc ks P)
    {pc : Nat} {Ls : Array Slot} {w : Value} {t : FieldType} {rest : List Value} (hw : w.isRef = true) (ht : t.isReference = true) (hret : meth.sig.returnType = some t) (hd : decode c.code pc = .ok (.areturn, 1)) (h1 : cells ≤ kc) (h2 : slots ≤ ks) (hq : Q (some w) T.heap locs) : ac0 p e below P (T.setTop (mkF m pc Ls (w :: rest))) := by
  obtain ⟨fs, hr, hrun, hended, hW⟩ := X.leaveW hS (by rw [eT]; exact hk) (v := some w) (fun h => by rw [hret] at h; cases h) hlk
  have hn : narrow t w = w := by rcases ref_cases hw with rfl | ⟨a, rfl⟩ <;> cases t <;> rfl
  have q : CHr Z EL s.vm s.heap T.vm T.heap := by rw [eT]; exact hC.trans (CHv.at X hZ hEL hC.1)
  exact ⟨_, _, retOut X hx hret hn (Or.inr (Or.inr (Or.inr (Or.inr ⟨rfl, ht, hw⟩)))) hd hr, hrun, hended, hP _ _ locs hq q (bg1 hW h1 h2)⟩
theorem br5 (X : Stand p l e R (s.setVm vm0) m args below meth c T locs cells slots) (hS : s.Since vm0 k0) (hk : k0 ≤ h.size) (hEL : EW Z a0 EL) (hC : CHr Z EL s.vm s.heap vm0 h) (hx : p.tables.exec = Jvm.exec) (hZ : Z.Warmed39 (s.setVm vm0).vm) {own : String} {index : Nat} {y : MethodName} {bytes : ByteArray} {maxL : Nat} {rt : Option FieldType} {rm : Room} {as' : Array Value} {Q : Option Value → Heap → List Loc → Prop}
    (hown : (s.setVm vm0).vm.findClass own = some m.cls) (w1 : (Jvm.Cond.methodLink own index y).before a0 Z = true) (w2 : (Jvm.Cond.static y).before a0 Z = true) (w3 : (Jvm.Cond.initialized y.cls).before a0 Z = true) (w4 : (Jvm.Cond.code y bytes maxL rt).before a0 Z = true) (hy : y.cls ≠ an8 ∧ y.cls ≠ ao8)
    (hM : al9 l Z EL y bytes maxL rt [] rm as' h Q) (W : Nat) (hf : rm.frames + 1 ≤ R.frames) (hl : W + (maxL + 11) + rm.locals ≤ R.locals) (eT : T.heap = h) (hc : cells + rm.cells ≤ R.cells) (hs : slots + rm.slots ≤ R.slots)
    {g : JFrame} (hg : g.method = m) (hsize : g.locals.size = c.maxLocals) {argsL rest : List Value} (ha : argsL.toArray = as') (hlen : ∀ sig, parseMethodDescriptor y.desc = some sig → argsL.length = sig.parameters.length) (hstack : g.stack = argsL.reverse ++ rest) (hW : 2 * g.monitorRoom + (rest.map fun v => v.category).sum ≤ W) (hdg : decode c.code g.pc = .ok (.invokestatic index, 3))
    (k : ∀ v T' L, Stand p l e R (s.setVm T'.vm) m args below meth c T' (locs ++ L) (cells + rm.cells) (slots + rm.slots) → Q v T'.heap L → s.Since T'.vm T'.heap.size → Z.Warmed39 (s.setVm T'.vm).vm → (s.setVm T'.vm).vm.findClass own = some m.cls → CHr Z EL s.vm s.heap T'.vm T'.heap → ac0 p e below P (T'.setTop { g with pc := g.pc + 3, stack := v.toList ++ rest })) : ac0 p e below P (T.setTop g) := by
  obtain ⟨v, vm₁, ⟨T', L', k', n'⟩, -, X', hS', hg', ⟨L, hQ, h1, h2, h3, h4⟩, st⟩ := callSS X hx hown (mvT hZ w1) (mvT hZ w2) (mvT hZ w3) (mvT hZ w4) hy (backOfSH (W := W) hM hZ w4 w3 hf hl hEL hC.1) hg hsize hlen hstack hW hdg (fun _ _ => ⟨ha, eT, hc, hs⟩)
  dsimp only [Pt.U, Pt.locs, Pt.cells, Pt.slots] at X' h1 h2 h3 h4 st hQ hS' hg'
  subst h1 h2 h3
  obtain ⟨q1, q2, q3, q4⟩ := rebS hS (by rw [← eT] at hk; exact hk) X' hS' hg' hZ hown
  exact by2 st (k v T' L q1 hQ q2 q3 q4 (hC.trans h4))
theorem eo3 (X : Stand p l e R s m args below meth c T locs cells slots) (hx : p.tables.exec = Jvm.exec) (hZ : Z.Warmed39 s.vm) (eT : T.heap = h) {a : Addr} {k : ClassId} {ty : FieldType} {z : Int32} {vs : List Value} {dv : Value} (F : Arv Z h a k ty z vs dv) {g : JFrame} (hg : g.method = m) {rest : List Value} (hs : g.stack = .ref a :: rest) (hd : decode c.code g.pc = .ok (.arraylength, 1))
    (r : ac0 p e below P (T.setTop { g with pc := g.pc + 1, stack := .int z :: rest })) : ac0 p e below P (T.setTop g) := by
  obtain ⟨cl, Ar, q1, S, N, H, G⟩ := F
  refine ae1 (fun _ => X.arraylength hx (by rw [eT]; exact Ar.1) (State.isArrayOf_alike hZ.alike Ar.2.1) hg hs hd _) ?_
  rw [len_of S N]; exact r
theorem es2 (X : Stand p l e R s m args below meth c T locs cells slots) (hx : p.tables.exec = Jvm.exec) (hZ : Z.Warmed39 s.vm) (eT : T.heap = h) {a : Addr} {k : ClassId} {z : Int32} {vs : List Value} {dv : Value} (F : Arv Z h a k .byte z vs dv) {j v : Int32} (hj : ¬ j < 0) (hi : j.toNatClampNeg < z.toNatClampNeg) (hv : vs.getD j.toNatClampNeg dv = .int v) {g : JFrame} (hg : g.method = m) {rest : List Value} (hs : g.stack = .int j :: .ref a :: rest) (hd : decode c.code g.pc = .ok (.baload, 1))
    (r : ac0 p e below P (T.setTop { g with pc := g.pc + 1, stack := .int v :: rest })) : ac0 p e below P (T.setTop g) := by
  obtain ⟨cl, Ar, q1, S, N, H, G⟩ := F
  have hin : ¬ (j < 0 ∨ cl.slots.size ≤ j.toNatClampNeg) := fun q => q.elim hj (fun y => by rw [S] at y; omega)
  refine ae1 (fun _ => X.baloadBytes hx (by rw [eT]; exact Ar.1) (State.isArrayOf_alike hZ.alike Ar.2.1) Ar.2.2 hin (H.at hin (v := .int v) hv) hg hs hd _) ?_
  exact r
end OwnH
theorem bj7 {Z : State} {a0 : Array Value} (hw : ∀ d ∈ tables_1, d.before a0 Z = true) : EW Z a0 consts_1 := (EW.cons (z_w hw 15 rfl) (by decide) (EW.cons (z_w hw 187 rfl) (by decide) (EW.cons (z_w hw 190 rfl) (by decide) (EW.cons (z_w hw 193 rfl) (by decide) (EW.cons (z_w hw 205 rfl) (by decide) (EW.cons (z_w hw 94 rfl) (by decide) EW.nil))))))
/-- an int[] at a that holds xs -/
def ag0 (Z : State) (h : Heap) (a : Addr) (xs : List Int32) : Prop :=
  ∃ k z, Arv Z h a k .int z (xs.map Value.int) (.int 0) ∧ z.toNatClampNeg = xs.length ∧ Exa Z h a "[I"
section OwnA
variable {p : Program} {l : Launch} {e : Env} {R : Room} {s : State} {m : MethodId} {args : Array Value} {below : List Frame} {meth : Method} {c : Code} {T : State} {locs : List Loc} {cells slots : Nat} {Z : State} {a0 : Array Value} {h h' : Heap} {P : Outcome → State → Prop} {a b : Addr} {xs ys : List Int32}
theorem ag0.lt (F : ag0 Z h a xs) : a < h.size := by obtain ⟨k, z, A, -⟩ := F; exact A.lt
theorem ag0.ext (F : ag0 Z h a xs) (E : Ext h h') : ag0 Z h' a xs := by obtain ⟨k, z, A, q, X⟩ := F; exact ⟨k, z, A.ext E, q, X.ext E⟩
theorem ag0.other {sl : Nat} {v : Value} (F : ag0 Z h a xs) (W : Wr h h' b sl v) (ne : a ≠ b) : ag0 Z h' a xs := by obtain ⟨k, z, A, q, X⟩ := F; exact ⟨k, z, A.other W ne, q, X.wr W⟩
theorem ag0.keep {ws : List Addr} (F : ag0 Z h a xs) (K : Keep h h' ws) (q : a ∉ ws) : ag0 Z h' a xs := by obtain ⟨k, z, A, r, X⟩ := F; exact ⟨k, z, A.keep K q, r, X.keep K⟩
theorem ag0.len (F : ag0 Z h a xs) : xs.length < 2 ^ 31 := by obtain ⟨k, z, ⟨cl, -, -, -, q, -⟩, r, -⟩ := F; rw [← r]; exact (back32 q).2
theorem ag0.ins (F : ag0 Z h a xs) : Ins Z h a "[I" true := by obtain ⟨k, z, A, r, X⟩ := F; exact Ins.self X
theorem ah9 {j : Int32} {i : Nat} (hj : j.toInt = (i : Int)) : ¬ j < 0 ∧ j.toNatClampNeg = i := by
  refine ⟨fun q => by rw [Int32.lt_iff_toInt_lt] at q; rw [hj] at q; have : (0 : Int32).toInt = 0 := by decide
                      omega, ?_⟩
  show j.toInt.toNat = i
  rw [hj]; rfl
theorem eh0 (X : Stand p l e R s m args below meth c T locs cells slots) (hx : p.tables.exec = Jvm.exec) (hZ : Z.Warmed39 s.vm) (eT : T.heap = h) (F : ag0 Z h a xs) {g : JFrame} (hg : g.method = m) {rest : List Value} (hs : g.stack = .ref a :: rest) (hd : decode c.code g.pc = .ok (.arraylength, 1))
    (k : ac0 p e below P (T.setTop { g with pc := g.pc + 1, stack := .int (Int32.ofNat xs.length) :: rest })) : ac0 p e below P (T.setTop g) := by
  obtain ⟨k', z, ⟨cl, Ar, q1, S, N, H, G⟩, r, -⟩ := F
  refine ae1 (fun _ => X.arraylength hx (by rw [eT]; exact Ar.1) (State.isArrayOf_alike hZ.alike Ar.2.1) hg hs hd _) ?_
  rw [S, r]; exact k
theorem db0 (X : Stand p l e R s m args below meth c T locs cells slots) (hx : p.tables.exec = Jvm.exec) (hZ : Z.Warmed39 s.vm) (eT : T.heap = h) (F : ag0 Z h a xs) {j v : Int32} {i : Nat} (hj : j.toInt = (i : Int)) (hv : xs[i]? = some v) {g : JFrame} (hg : g.method = m) {rest : List Value} (hs : g.stack = .int j :: .ref a :: rest) (hd : decode c.code g.pc = .ok (.iaload, 1))
    (k : ac0 p e below P (T.setTop { g with pc := g.pc + 1, stack := .int v :: rest })) : ac0 p e below P (T.setTop g) := by
  obtain ⟨k', z, ⟨cl, Ar, q1, S, N, H, G⟩, r, -⟩ := F
  obtain ⟨hn, hi⟩ := ah9 hj
  have hl : i < xs.length := (List.getElem?_eq_some_iff.mp hv).1
  have hin : ¬ (j < 0 ∨ cl.slots.size ≤ j.toNatClampNeg) := fun q => q.elim hn (fun y => by rw [S, r, hi] at y; omega)
  refine ae1 (fun _ => X.iaload hx (by rw [eT]; exact Ar.1) (State.isArrayOf_alike hZ.alike Ar.2.1) Ar.2.2 hin (H.at hin (v := .int v) (by rw [hi]; simp [hv])) hg hs hd _) ?_
  exact k
theorem ck6 (X : Stand p l e R s m args below meth c T locs cells slots) (hx : p.tables.exec = Jvm.exec) (hZ : Z.Warmed39 s.vm) (eT : T.heap = h) (F : ag0 Z h a xs) {j v : Int32} {i : Nat} (hj : j.toInt = (i : Int)) (hl : i < xs.length) {g : JFrame} (hg : g.method = m) {rest : List Value} (hs : g.stack = .int v :: .int j :: .ref a :: rest) (hd : decode c.code g.pc = .ok (.iastore, 1))
    (k : ∀ T' h', Stand p l e R s m args below meth c T' (locs ++ [⟨a, j.toNatClampNeg⟩]) cells slots → T'.heap = h' → Wr h h' a j.toNatClampNeg (.int v) → ag0 Z h' a (xs.set i v) → ac0 p e below P (T'.setTop { g with pc := g.pc + 1, stack := rest })) : ac0 p e below P (T.setTop g) := by
  obtain ⟨k', z, ⟨cl, Ar, q1, S, N, H, G⟩, r, E⟩ := F
  obtain ⟨hn, hi⟩ := ah9 hj
  have hin : ¬ (j < 0 ∨ cl.slots.size ≤ j.toNatClampNeg) := fun q => q.elim hn (fun y => by rw [S, r, hi] at y; omega)
  obtain ⟨T', h', X', e', W, st⟩ := stI X hx hZ eT Ar (j := j) hin hg hs hd
  refine ae1 st (k T' h' X' e' W ⟨k', z, ?_, by rw [List.length_set]; exact r, E.wr W⟩)
  have := Arv.set Ar q1 S N H G rfl W i hi (by rw [List.length_map]; exact hl)
  rwa [← List.map_set] at this
theorem ej0 (X : Stand p l e R s m args below meth c T locs cells slots) (hx : p.tables.exec = Jvm.exec) (hZ : Z.Warmed39 s.vm) (w : (Jvm.Cond.arrayClass .int).before a0 Z = true) (eT : T.heap = h) {j : Int32} {n : Nat} (hj : j.toInt = (n : Int)) (cap : Nat) (hcap : n ≤ cap) (hb : cap * 8 ≤ 536870912) (hc : cells + 1 ≤ R.cells) (hl : slots + cap ≤ R.slots) {g : JFrame} (hg : g.method = m) {rest : List Value} (hs : g.stack = .int j :: rest) (hd : decode c.code g.pc = .ok (.newarray .int, 2))
    (k : ∀ T' h', Stand p l e R s m args below meth c T' locs (cells + 1) (slots + cap) → T'.heap = h' → Ext h h' → ag0 Z h' h.size (List.replicate n 0) → ac0 p e below P (T'.setTop { g with pc := g.pc + 2, stack := .ref h.size :: rest })) : ac0 p e below P (T.setTop g) := by
  obtain ⟨hn, hi⟩ := ah9 hj
  obtain ⟨T', h', cA, X', e', E, A, Ex, st⟩ := newPE X hx hZ (aty := .int) w eT hg hd hs hn (cap := cap) (by rw [hi]; exact hcap) hb hc hl (ad := "[I") (by decide)
  refine ae1 st (k T' h' X' e' E ⟨cA, j, ?_, by rw [hi, List.length_replicate], Ex⟩)
  have := (Arv.new A hn).pad (vs' := (List.replicate n (0 : Int32)).map Value.int) (fun i => by simp [List.getD_eq_getElem?_getD, List.getElem?_replicate, newarray.typeOf, defaultValue]; split <;> rfl)
  exact this
theorem dk5 (xs : List Int32) (sp n : Nat) (h4 : sp + n ≤ xs.length) : (List.range n).map (fun i => (xs.map Value.int).getD (sp + i) (.int 0)) = ((xs.drop sp).take n).map Value.int := by
  apply List.ext_getElem?
  intro i
  by_cases hi : i < n
  · have h5 : sp + i < xs.length := by omega
    simp [List.getElem?_map, List.getElem?_range hi, List.getElem?_take, hi, List.getElem?_drop, List.getD_eq_getElem?_getD, List.getElem?_eq_getElem h5]
  · rw [List.getElem?_eq_none (by simp; omega), List.getElem?_eq_none (by simp; omega)]
theorem ap4 (X : Stand p l e R s m args below meth c T locs cells slots) (hx : p.tables.exec = Jvm.exec) (hZ : Z.Warmed39 s.vm) {own : String} {index : Nat} (hown : s.vm.findClass own = some m.cls)
    (w1 : (Jvm.Cond.methodLink own index Jvm.Stand.acN).before a0 Z = true) (w2 : (Jvm.Cond.native Jvm.Stand.acN).before a0 Z = true) (w3 : (Jvm.Cond.static Jvm.Stand.acN).before a0 Z = true) (w4 : (Jvm.Cond.initialized "java/lang/System").before a0 Z = true) (eT : T.heap = h)
    (A : ag0 Z h a xs) (B : ag0 Z h b ys) {sj dj nj : Int32} {sp dp n : Nat} (h1 : sj.toInt = (sp : Int)) (h2 : dj.toInt = (dp : Int)) (h3 : nj.toInt = (n : Int)) (h4 : sp + n ≤ xs.length) (h5 : dp + n ≤ ys.length) {n0 : Nat} (N : Fr n0 locs) (ge : n0 ≤ b)
    {g : JFrame} (hg : g.method = m) (hsize : g.locals.size = c.maxLocals) {rest : List Value} (hs : g.stack = .int nj :: .int dj :: .ref b :: .int sj :: .ref a :: rest) (hd : decode c.code g.pc = .ok (.invokestatic index, 3))
    (hf : 1 ≤ R.frames) (W : Nat) (hW : 2 * g.monitorRoom + (rest.map fun v => v.category).sum ≤ W) (hlo : W + (nativeFrameWords "java/lang/System" "arraycopy" 5 + 11) ≤ R.locals)
    (k : ∀ T' h' L, Stand p l e R s m args below meth c T' L cells slots → T'.heap = h' → Fr n0 L → Keep h h' [b] → ag0 Z h' b (ys.take dp ++ (xs.drop sp).take n ++ ys.drop (dp + n)) → ac0 p e below P (T'.setTop { g with pc := g.pc + 3, stack := rest })) : ac0 p e below P (T.setTop g) := by
  obtain ⟨ka, za, Aa, ra, Ea⟩ := A
  obtain ⟨kb, zb, Ab, rb, Eb⟩ := B
  obtain ⟨n1, e1⟩ := ah9 h1
  obtain ⟨n2, e2⟩ := ah9 h2
  obtain ⟨n3, e3⟩ := ah9 h3
  obtain ⟨T', h', L, X', e', N', K, F, st⟩ := cpA X hx hZ hown w1 w2 w3 w4 eT Aa Ab (Or.inl ⟨rfl, rfl⟩) n1 n2 n3 (by rw [e1, e3, ra]; exact h4) (by rw [e2, e3, rb]; exact h5) (us := ((xs.drop sp).take n).map Value.int) (by rw [e3, e1]; exact (dk5 xs sp n h4).symm) (by rw [e2, e3, List.length_map]; exact h5) N ge hg hsize hs hd hf hW hlo
  refine ae1 st (k T' h' L X' e' N' K ⟨kb, zb, ?_, ?_, Eb.keep K⟩)
  · rw [e2, e3, ← List.map_take, ← List.map_drop, ← List.map_append, ← List.map_append] at F
    exact F
  · rw [rb]; simp; omega
theorem ap9 (X : Stand p l e R s m args below meth c T locs cells slots) (hx : p.tables.exec = Jvm.exec) (hZ : Z.Warmed39 s.vm) {own : String} {index : Nat} (hown : s.vm.findClass own = some m.cls)
    (w1 : (Jvm.Cond.methodLink own index ⟨"[I", "clone", "()Ljava/lang/Object;"⟩).before a0 Z = true) (w2 : (Jvm.Cond.sameMethod "[I" "java/lang/Object" "clone" "()Ljava/lang/Object;").before a0 Z = true) (w3 : (Jvm.Cond.native ⟨"java/lang/Object", "clone", "()Ljava/lang/Object;"⟩).before a0 Z = true)
    (w4 : (Jvm.Cond.instanceMethod ⟨"java/lang/Object", "clone", "()Ljava/lang/Object;"⟩).before a0 Z = true) (w5 : (Jvm.Cond.selects "[I" ⟨"[I", "clone", "()Ljava/lang/Object;"⟩ ⟨"java/lang/Object", "clone", "()Ljava/lang/Object;"⟩).before a0 Z = true) (w6 : (Jvm.Cond.castable "[I" "java/lang/Cloneable").before a0 Z = true)
    (eT : T.heap = h) (A : ag0 Z h a xs) {g : JFrame} (hg : g.method = m) (hsize : g.locals.size = c.maxLocals) {rest : List Value} (hst : g.stack = .ref a :: rest) (hd : decode c.code g.pc = .ok (.invokevirtual index, 3))
    (hf : 1 ≤ R.frames) (W cap : Nat) (hW : 2 * g.monitorRoom + (rest.map fun v => v.category).sum ≤ W) (hl : W + 14 ≤ R.locals) (hcap : xs.length ≤ cap) (hc : cells + 1 ≤ R.cells) (hsl : slots + cap ≤ R.slots)
    (k : ∀ T' h', Stand p l e R s m args below meth c T' locs (cells + 1) (slots + cap) → T'.heap = h' → Ext h h' → ag0 Z h' h.size xs → ac0 p e below P (T'.setTop { g with pc := g.pc + 3, stack := .ref h.size :: rest })) : ac0 p e below P (T.setTop g) := by
  obtain ⟨ka, za, Aa, ra, Ea⟩ := A
  obtain ⟨T', h', X', e', E, F, Ex, st⟩ := cloneH X hx hZ hown w1 w2 w3 w4 w5 w6 eT Aa.arh Ea hg hsize hst hd hf hW hl (cap := cap) (by rw [ra]; exact hcap) hc hsl
  exact ae1 st (k T' h' X' e' E ⟨ka, za, F, ra, Ex⟩)
end OwnA
theorem cq5 {Z : State} {h : Heap} {a : Addr} {k : ClassId} {ty : FieldType} {z : Int32} {vs : List Value} {dv : Value} (A : Arv Z h a k ty z vs dv) : ∃ c : Cell, h[a]? = some c ∧ c.vm.isStatics = false := by
  obtain ⟨c, ⟨h1, ⟨h2, -⟩, -⟩, -⟩ := A
  refine ⟨c, h1, ?_⟩
  cases q : c.vm <;> first | rfl | exact absurd q (h2 _)
theorem ex3 {Z : State} {h : Heap} {a : Addr} {xs : List Int32} (F : ag0 Z h a xs) : ∃ c : Cell, h[a]? = some c ∧ c.vm.isStatics = false := by obtain ⟨k, z, A, -⟩ := F; exact cq5 A
/-- a byte[] at a that holds xs -/
def ae6 (Z : State) (h : Heap) (a : Addr) (xs : List Int32) : Prop :=
  ∃ k z, Arv Z h a k .byte z (xs.map Value.int) (.int 0) ∧ z.toNatClampNeg = xs.length ∧ (xs = [] ∨ Exa Z h a "[B")
section OwnB
variable {p : Program} {l : Launch} {e : Env} {R : Room} {s : State} {m : MethodId} {args : Array Value} {below : List Frame} {meth : Method} {c : Code} {T : State} {locs : List Loc} {cells slots : Nat} {Z : State} {a0 : Array Value} {h h' : Heap} {P : Outcome → State → Prop} {a b : Addr} {xs ys : List Int32}
theorem ae6.lt (F : ae6 Z h a xs) : a < h.size := by obtain ⟨k, z, A, -⟩ := F; exact A.lt
theorem ae6.ext (F : ae6 Z h a xs) (E : Ext h h') : ae6 Z h' a xs := by obtain ⟨k, z, A, q, X⟩ := F; exact ⟨k, z, A.ext E, q, X.imp id (·.ext E)⟩
theorem ae6.other {sl : Nat} {v : Value} (F : ae6 Z h a xs) (W : Wr h h' b sl v) (ne : a ≠ b) : ae6 Z h' a xs := by obtain ⟨k, z, A, q, X⟩ := F; exact ⟨k, z, A.other W ne, q, X.imp id (·.wr W)⟩
theorem ae6.keep {ws : List Addr} (F : ae6 Z h a xs) (K : Keep h h' ws) (q : a ∉ ws) : ae6 Z h' a xs := by obtain ⟨k, z, A, r, X⟩ := F; exact ⟨k, z, A.keep K q, r, X.imp id (·.keep K)⟩
theorem ae6.len (F : ae6 Z h a xs) : xs.length < 2 ^ 31 := by obtain ⟨k, z, ⟨cl, -, -, -, q, -⟩, r, -⟩ := F; rw [← r]; exact (back32 q).2
theorem ae6.ins (F : ae6 Z h a xs) (n : xs ≠ []) : Ins Z h a "[B" true := by obtain ⟨k, z, A, r, X⟩ := F; exact Ins.self (X.resolve_left n)
theorem ep3 (X : Stand p l e R s m args below meth c T locs cells slots) (hx : p.tables.exec = Jvm.exec) (hZ : Z.Warmed39 s.vm) (eT : T.heap = h) (F : ae6 Z h a xs) {g : JFrame} (hg : g.method = m) {rest : List Value} (hs : g.stack = .ref a :: rest) (hd : decode c.code g.pc = .ok (.arraylength, 1))
    (k : ac0 p e below P (T.setTop { g with pc := g.pc + 1, stack := .int (Int32.ofNat xs.length) :: rest })) : ac0 p e below P (T.setTop g) := by
  obtain ⟨k', z, ⟨cl, Ar, q1, S, N, H, G⟩, r, -⟩ := F
  refine ae1 (fun _ => X.arraylength hx (by rw [eT]; exact Ar.1) (State.isArrayOf_alike hZ.alike Ar.2.1) hg hs hd _) ?_
  rw [S, r]; exact k
theorem ey2 (X : Stand p l e R s m args below meth c T locs cells slots) (hx : p.tables.exec = Jvm.exec) (hZ : Z.Warmed39 s.vm) (eT : T.heap = h) (F : ae6 Z h a xs) {j : Int32} {v : Int32} {i : Nat} (hj : j.toInt = (i : Int)) (hv : xs[i]? = some v) {g : JFrame} (hg : g.method = m) {rest : List Value} (hs : g.stack = .int j :: .ref a :: rest) (hd : decode c.code g.pc = .ok (.baload, 1))
    (k : ac0 p e below P (T.setTop { g with pc := g.pc + 1, stack := .int v :: rest })) : ac0 p e below P (T.setTop g) := by
  obtain ⟨k', z, ⟨cl, Ar, q1, S, N, H, G⟩, r, -⟩ := F
  obtain ⟨hn, hi⟩ := ah9 hj
  have hl : i < xs.length := (List.getElem?_eq_some_iff.mp hv).1
  have hin : ¬ (j < 0 ∨ cl.slots.size ≤ j.toNatClampNeg) := fun q => q.elim hn (fun y => by rw [S, r, hi] at y; omega)
  refine ae1 (fun _ => X.baloadBytes hx (by rw [eT]; exact Ar.1) (State.isArrayOf_alike hZ.alike Ar.2.1) Ar.2.2 hin (H.at hin (v := .int v) (by rw [hi]; simp [hv])) hg hs hd _) ?_
  exact k
theorem et2 (X : Stand p l e R s m args below meth c T locs cells slots) (hx : p.tables.exec = Jvm.exec) (hZ : Z.Warmed39 s.vm) (eT : T.heap = h) (F : ae6 Z h a xs) {j : Int32} {v : Int32} {i : Nat} (hj : j.toInt = (i : Int)) (hl : i < xs.length) {g : JFrame} (hg : g.method = m) {rest : List Value} (hs : g.stack = .int v :: .int j :: .ref a :: rest) (hd : decode c.code g.pc = .ok (.bastore, 1))
    (k : ∀ T' h', Stand p l e R s m args below meth c T' (locs ++ [⟨a, j.toNatClampNeg⟩]) cells slots → T'.heap = h' → Wr h h' a j.toNatClampNeg (.int (nar .byte v)) → ae6 Z h' a (xs.set i (nar .byte v)) → ac0 p e below P (T'.setTop { g with pc := g.pc + 1, stack := rest })) : ac0 p e below P (T.setTop g) := by
  obtain ⟨k', z, ⟨cl, Ar, q1, S, N, H, G⟩, r, E⟩ := F
  obtain ⟨hn, hi⟩ := ah9 hj
  have hin : ¬ (j < 0 ∨ cl.slots.size ≤ j.toNatClampNeg) := fun q => q.elim hn (fun y => by rw [S, r, hi] at y; omega)
  obtain ⟨T', h', X', e', W, st⟩ := stB X hx hZ eT Ar (j := j) hin hg hs hd
  refine ae1 st (k T' h' X' e' W ⟨k', z, ?_, by rw [List.length_set]; exact r, E.imp (fun q => by rw [q]; rfl) (·.wr W)⟩)
  have := Arv.set Ar q1 S N H G (fits_nar_byte _) W i hi (by rw [List.length_map]; exact hl)
  rwa [← List.map_set] at this
theorem ek0 (X : Stand p l e R s m args below meth c T locs cells slots) (hx : p.tables.exec = Jvm.exec) (hZ : Z.Warmed39 s.vm) (w : (Jvm.Cond.arrayClass .byte).before a0 Z = true) (eT : T.heap = h) {j : Int32} {n : Nat} (hj : j.toInt = (n : Int)) (cap : Nat) (hcap : n ≤ cap) (hb : cap * 8 ≤ 536870912) (hc : cells + 1 ≤ R.cells) (hl : slots + cap ≤ R.slots) {g : JFrame} (hg : g.method = m) {rest : List Value} (hs : g.stack = .int j :: rest) (hd : decode c.code g.pc = .ok (.newarray .byte, 2))
    (k : ∀ T' h', Stand p l e R s m args below meth c T' locs (cells + 1) (slots + cap) → T'.heap = h' → Ext h h' → ae6 Z h' h.size (List.replicate n 0) → ac0 p e below P (T'.setTop { g with pc := g.pc + 2, stack := .ref h.size :: rest })) : ac0 p e below P (T.setTop g) := by
  obtain ⟨hn, hi⟩ := ah9 hj
  obtain ⟨T', h', cA, X', e', E, A, Ex, st⟩ := newPE X hx hZ (aty := .byte) w eT hg hd hs hn (cap := cap) (by rw [hi]; exact hcap) hb hc hl (ad := "[B") (by decide)
  refine ae1 st (k T' h' X' e' E ⟨cA, j, ?_, by rw [hi, List.length_replicate], Or.inr Ex⟩)
  have := (Arv.new A hn).pad (vs' := (List.replicate n (0 : Int32)).map Value.int) (fun i => by simp [List.getD_eq_getElem?_getD, List.getElem?_replicate, newarray.typeOf, defaultValue]; split <;> rfl)
  exact this
end OwnB
abbrev cr5 (l : Launch) (Z : State) (EL : List (String × Nat)) (y : MethodName) (bytes : ByteArray) (maxL : Nat) (rt : Option FieldType) (ws : List Jvm.Cond) (rm : Room) (as' : Array Value) (h0 : Heap) (Q : Option Value → Heap → List Loc → Prop) : Prop :=
  MetFree l y (head1 (Jvm.Cond.code y bytes maxL rt :: ws) rm) (fun a U => a = as' ∧ Z.Warmed39 U.vm ∧ U.heap = h0 ∧ CHv Z EL U.vm h0) (fun _ _ _ _ _ => True) (fun _ U o U' => ∃ v L, o = .returned v ∧ Q v U'.heap L ∧ ReturnedEndW U o U' L rm.cells rm.slots)
section OwnSafe
variable {p : Program} {l : Launch} {e : Env} {R : Room} {s : State} {m : MethodId} {args : Array Value} {below : List Frame} {meth : Method} {c : Code} {T : State} {locs : List Loc} {cells slots : Nat} {Z : State} {a0 : Array Value} {h : Heap} {P : Outcome → State → Prop} {vm0 : Vm} {k0 : Nat} {EL : List (String × Nat)}
/-- a String whose 'value' is null is no booked constant's -/
theorem em2 {vm : Vm} {x : Addr} (hal : Z.vm.Alike vm) (E : Exa Z h x z_s1) (F : Fld Z h x z_s1 "value" "[B" .null) : Safe Z EL vm h x := fun B => by
  obtain ⟨p, -, u, a, -, q, -, G, rfl | rfl⟩ := B
  · obtain ⟨cell, c1, k1, i1, f1, e1, e2, -, -, -, -, e7⟩ := F
    cases (show h[q.sa]? = some q.sC from G.ha).symm.trans e1
    obtain ⟨cS, ⟨⟨-, -, -, ⟨cv, kv, iv, s4, -⟩, -, -, -, s8, -⟩, -, -⟩, -⟩ := G
    obtain ⟨kv', z4⟩ := ff_back (U := Wst Z vm h) hal s4
    have z5 := z4.symm.trans e2
    simp only [Option.some.injEq, Prod.mk.injEq] at z5
    rw [z5.2.2.2, e7] at s8
    cases s8
  · obtain ⟨cell, k, e1, e2, e3, -, -⟩ := E
    cases (show h[q.sd]? = some q.SA from G.hd).symm.trans e1
    obtain ⟨cS, -, -, f, -⟩ := G
    have f : vm.findClass "[B" = some q.SA.cls := f
    rw [hal.findClass] at f
    obtain ⟨k1, q1, q2⟩ := Vm.findClass_spec f
    obtain ⟨k2, q3, q4⟩ := Vm.findClass_spec e2
    cases q1.symm.trans q3
    exact absurd (q2.symm.trans q4) (by decide)
theorem dl5 (X : Stand p l e R (s.setVm vm0) m args below meth c T locs cells slots) (hS : s.Since vm0 k0) (hk : k0 ≤ h.size) (eT : T.heap = h) (hZ : Z.Warmed39 (s.setVm vm0).vm) (hEL : EW Z a0 EL) (hC : CHr Z EL s.vm s.heap vm0 h) (hx : p.tables.exec = Jvm.exec) (hlk : meth.locks = false) {kc ks : Nat} {Q : Option Value → Heap → List Loc → Prop} (hP : cj4 Z EL Q s kc ks P)
    {pc : Nat} {Ls : Array Slot} (hret : meth.sig.returnType = none) (hd : decode c.code pc = .ok (.return_, 1)) (h1 : cells ≤ kc) (h2 : slots ≤ ks) (hq : Q none T.heap locs) : ac0 p e below P (T.setTop (mkF m pc Ls [])) := by
  obtain ⟨fs, hr, hrun, hended, hW⟩ := X.leaveW hS (by rw [eT]; exact hk) (v := none) (fun _ => rfl) hlk
  have q : CHr Z EL s.vm s.heap T.vm T.heap := by rw [eT]; exact hC.trans (CHv.at X hZ hEL hC.1)
  exact ⟨_, _, X.returnOut hx hret hd hr, hrun, hended, hP _ _ locs hq q (bg1 hW h1 h2)⟩
theorem dc0 (X : Stand p l e R (s.setVm vm0) m args below meth c T locs cells slots) (hS : s.Since vm0 k0) (hk : k0 ≤ h.size) (hEL : EW Z a0 EL) (hC : CHr Z EL s.vm s.heap vm0 h) (hx : p.tables.exec = Jvm.exec) (hZ : Z.Warmed39 (s.setVm vm0).vm) {own : String} {index : Nat} {y : MethodName} {bytes : ByteArray} {maxL : Nat} {rm : Room} {as' : Array Value} {Q : Option Value → Heap → List Loc → Prop}
    (hy1 : y.name = "<init>") (hown : (s.setVm vm0).vm.findClass own = some m.cls) (w1 : (Jvm.Cond.methodLink own index y).before a0 Z = true) (w2 : (Jvm.Cond.instanceMethod y).before a0 Z = true) (w3 : (Jvm.Cond.initialized y.cls).before a0 Z = true) (w4 : (Jvm.Cond.code y bytes maxL none).before a0 Z = true) (hy : y.cls ≠ an8 ∧ y.cls ≠ ao8)
    (hM : al9 l Z EL y bytes maxL none [] rm as' h Q) (W : Nat) (hf : rm.frames + 1 ≤ R.frames) (hl : W + (maxL + 11) + rm.locals ≤ R.locals) (eT : T.heap = h) (hc : cells + rm.cells ≤ R.cells) (hs : slots + rm.slots ≤ R.slots)
    {g : JFrame} (hg : g.method = m) (hsize : g.locals.size = c.maxLocals) {a : Addr} {argsL rest : List Value} (ha : (Value.ref a :: argsL).toArray = as') (hlen : ∀ sig, parseMethodDescriptor y.desc = some sig → argsL.length = sig.parameters.length) (hstack : g.stack = argsL.reverse ++ .ref a :: rest) (hW : 2 * g.monitorRoom + (rest.map fun v => v.category).sum ≤ W) (hdg : decode c.code g.pc = .ok (.invokespecial index, 3))
    (k : ∀ v T' L, Stand p l e R (s.setVm T'.vm) m args below meth c T' (locs ++ L) (cells + rm.cells) (slots + rm.slots) → Q v T'.heap L → s.Since T'.vm T'.heap.size → Z.Warmed39 (s.setVm T'.vm).vm → (s.setVm T'.vm).vm.findClass own = some m.cls → CHr Z EL s.vm s.heap T'.vm T'.heap → ac0 p e below P (T'.setTop { g with pc := g.pc + 3, stack := v.toList ++ rest })) : ac0 p e below P (T.setTop g) := by
  obtain ⟨v, vm₁, ⟨T', L', k', n'⟩, -, X', hS', hg', ⟨L, hQ, h1, h2, h3, h4⟩, st⟩ := X.specialBackS hx hy1 hown (mvT hZ w1) (mvT hZ w2) (mvT hZ w4) hy (backOfSH (W := W) hM hZ w4 w3 hf hl hEL hC.1) hg hsize (Steps.refl _) hlen hstack hW hdg (fun _ _ => ⟨ha, eT, hc, hs⟩)
  dsimp only [Pt.U, Pt.locs, Pt.cells, Pt.slots] at X' h1 h2 h3 h4 st hQ hS' hg'
  subst h1 h2 h3
  obtain ⟨q1, q2, q3, q4⟩ := rebS hS (by rw [← eT] at hk; exact hk) X' hS' hg' hZ hown
  exact by2 st (k v T' L q1 hQ q2 q3 q4 (hC.trans h4))
theorem dd0 {y : MethodName} {bytes : ByteArray} {maxL : Nat} {rt : Option FieldType} {ws : List Jvm.Cond} {rm : Room} {as' : Array Value} {h0 : Heap} {Q : Option Value → Heap → List Loc → Prop} (hpl : plainFor y = true)
    (body : ∀ (p : Program) (e : Env) (s : State) (m : MethodId) (below : List Frame) (meth : Method) (c : Code) (s₁ : State) (P : Outcome → State → Prop) (vm0 : Vm) (k0 : Nat), p.tables.exec = Jvm.exec → c.code = bytes → c.maxLocals = maxL → meth.sig.returnType = rt → meth.locks = false → (s.setVm vm0).vm.findClass y.cls = some m.cls → meth.name = y.name → Z.Warmed39 (s.setVm vm0).vm →
      Stand p l e rm (s.setVm vm0) m as' below meth c s₁ [] 0 0 → s₁.heap = h0 → s.Since vm0 k0 → k0 ≤ h0.size → CHr Z EL s.vm s.heap vm0 h0 → bl7 Q s rm.cells rm.slots P → ac0 p e below P (s₁.setTop (entryFrame m as' maxL))) :
    cr5 l Z EL y bytes maxL rt ws rm as' h0 Q := by
  refine MetFree.of_bodySF hpl hisR ?_
  intro p e s m args below meth c s₁ Bd hml0 hP hK
  obtain ⟨rfl, hZ, hh, hC⟩ := hP
  exact body p e s m below meth c s₁ _ s.vm s.heap.size Bd.exec Bd.bytes hml0 Bd.returns Bd.notSynchronized (findClass_of_methodNamed Bd.named) (name_of_methodNamed Bd.named Bd.method).1 hZ (Stand.of_body Bd) (by rw [← hh, Bd.state]; rfl) ((State.WarmedH.refl s).since _) (by rw [hh]; exact Nat.le_refl _) (by subst hh; exact CHr.refl hC) (fun v U L q f => ⟨v, L, rfl, q, f⟩)
end OwnSafe
/-- a byte[] of length n at a -/
def ao0 (Z : State) (h : Heap) (a : Addr) (n : Nat) : Prop := ∃ k z vs, Arv Z h a k .byte z vs (.int 0) ∧ z.toNatClampNeg = n ∧ vs.length = n
section OwnN
variable {p : Program} {l : Launch} {e : Env} {R : Room} {s : State} {m : MethodId} {args : Array Value} {below : List Frame} {meth : Method} {c : Code} {T : State} {locs : List Loc} {cells slots : Nat} {Z : State} {a0 : Array Value} {h h' : Heap} {P : Outcome → State → Prop} {a b : Addr} {n n1 n2 : Nat}
theorem ao0.lt (F : ao0 Z h a n) : a < h.size := by obtain ⟨k, z, vs, A, -⟩ := F; exact A.lt
theorem ao0.ext (F : ao0 Z h a n) (E : Ext h h') : ao0 Z h' a n := by obtain ⟨k, z, vs, A, q⟩ := F; exact ⟨k, z, vs, A.ext E, q⟩
theorem ao0.other {sl : Nat} {v : Value} (F : ao0 Z h a n) (W : Wr h h' b sl v) (ne : a ≠ b) : ao0 Z h' a n := by obtain ⟨k, z, vs, A, q⟩ := F; exact ⟨k, z, vs, A.other W ne, q⟩
theorem ao0.keep {ws : List Addr} (F : ao0 Z h a n) (K : Keep h h' ws) (q : a ∉ ws) : ao0 Z h' a n := by obtain ⟨k, z, vs, A, r⟩ := F; exact ⟨k, z, vs, A.keep K q, r⟩
theorem ae6.toN {xs : List Int32} (F : ae6 Z h a xs) : ao0 Z h a xs.length := by obtain ⟨k, z, A, r, -⟩ := F; exact ⟨k, z, _, A, r, by rw [List.length_map]⟩
theorem ao0.ofV {k : ClassId} {z : Int32} {vs : List Value} (A : Arv Z h a k .byte z vs (.int 0)) (h1 : z.toNatClampNeg = n) (h2 : vs.length = n) : ao0 Z h a n := ⟨k, z, vs, A, h1, h2⟩
theorem dm5 (X : Stand p l e R s m args below meth c T locs cells slots) (hx : p.tables.exec = Jvm.exec) (hZ : Z.Warmed39 s.vm) (eT : T.heap = h) (F : ao0 Z h a n) {j : Int32} (hj : Int32.ofNat n = j) {g : JFrame} (hg : g.method = m) {rest : List Value} (hs : g.stack = .ref a :: rest) (hd : decode c.code g.pc = .ok (.arraylength, 1))
    (k : ac0 p e below P (T.setTop { g with pc := g.pc + 1, stack := .int j :: rest })) : ac0 p e below P (T.setTop g) := by
  obtain ⟨k', z, vs, ⟨cl, Ar, q1, S, N, H, G⟩, r, -⟩ := F
  subst hj
  refine ae1 (fun _ => X.arraylength hx (by rw [eT]; exact Ar.1) (State.isArrayOf_alike hZ.alike Ar.2.1) hg hs hd _) ?_
  rw [S, r]; exact k
theorem el0 (X : Stand p l e R s m args below meth c T locs cells slots) (hx : p.tables.exec = Jvm.exec) (hZ : Z.Warmed39 s.vm) (w : (Jvm.Cond.arrayClass .byte).before a0 Z = true) (eT : T.heap = h) {j : Int32} {n : Nat} (hj : j.toInt = (n : Int)) (cap : Nat) (hcap : n ≤ cap) (hb : cap * 8 ≤ 536870912) (hc : cells + 1 ≤ R.cells) (hl : slots + cap ≤ R.slots) {g : JFrame} (hg : g.method = m) {rest : List Value} (hs : g.stack = .int j :: rest) (hd : decode c.code g.pc = .ok (.newarray .byte, 2))
    (k : ∀ T' h', Stand p l e R s m args below meth c T' locs (cells + 1) (slots + cap) → T'.heap = h' → Ext h h' → ao0 Z h' h.size n → ac0 p e below P (T'.setTop { g with pc := g.pc + 2, stack := .ref h.size :: rest })) : ac0 p e below P (T.setTop g) :=
  ek0 X hx hZ w eT hj cap hcap hb hc hl hg hs hd (fun T' h' X' e' E B => k T' h' X' e' E (by have q := B.toN; rw [List.length_replicate] at q; exact q))
theorem az8 (X : Stand p l e R s m args below meth c T locs cells slots) (hx : p.tables.exec = Jvm.exec) (hZ : Z.Warmed39 s.vm) {own : String} {index : Nat} (hown : s.vm.findClass own = some m.cls)
    (w1 : (Jvm.Cond.methodLink own index Jvm.Stand.acN).before a0 Z = true) (w2 : (Jvm.Cond.native Jvm.Stand.acN).before a0 Z = true) (w3 : (Jvm.Cond.static Jvm.Stand.acN).before a0 Z = true) (w4 : (Jvm.Cond.initialized "java/lang/System").before a0 Z = true) (eT : T.heap = h)
    (A : ao0 Z h a n1) (B : ao0 Z h b n2) {sj dj nj : Int32} {sp dp n : Nat} (h1 : sj.toInt = (sp : Int)) (h2 : dj.toInt = (dp : Int)) (h3 : nj.toInt = (n : Int)) (h4 : sp + n ≤ n1) (h5 : dp + n ≤ n2) {n0 : Nat} (N : Fr n0 locs) (ge : n0 ≤ b)
    {g : JFrame} (hg : g.method = m) (hsize : g.locals.size = c.maxLocals) {rest : List Value} (hs : g.stack = .int nj :: .int dj :: .ref b :: .int sj :: .ref a :: rest) (hd : decode c.code g.pc = .ok (.invokestatic index, 3))
    (hf : 1 ≤ R.frames) (W : Nat) (hW : 2 * g.monitorRoom + (rest.map fun v => v.category).sum ≤ W) (hlo : W + (nativeFrameWords "java/lang/System" "arraycopy" 5 + 11) ≤ R.locals)
    (k : ∀ T' h' L, Stand p l e R s m args below meth c T' L cells slots → T'.heap = h' → Fr n0 L → Keep h h' [b] → ao0 Z h' b n2 → ac0 p e below P (T'.setTop { g with pc := g.pc + 3, stack := rest })) : ac0 p e below P (T.setTop g) := by
  obtain ⟨ka, za, va, Aa, ra, la⟩ := A
  obtain ⟨kb, zb, vb, Ab, rb, lb⟩ := B
  obtain ⟨q1, e1⟩ := ah9 h1
  obtain ⟨q2, e2⟩ := ah9 h2
  obtain ⟨q3, e3⟩ := ah9 h3
  obtain ⟨T', h', L, X', e', N', K, F, st⟩ := cpA X hx hZ hown w1 w2 w3 w4 eT Aa Ab (Or.inl ⟨rfl, rfl⟩) q1 q2 q3 (by rw [e1, e3, ra]; exact h4) (by rw [e2, e3, rb]; exact h5) rfl (by rw [e2, e3, lb]; exact h5) N ge hg hsize hs hd hf hW hlo
  refine ae1 st (k T' h' L X' e' N' K ⟨kb, zb, _, F, rb, ?_⟩)
  rw [e2, e3]
  simp only [List.length_append, List.length_take, List.length_drop, List.length_map, List.length_range, lb]
  omega
theorem ag0.safe {EL : List (String × Nat)} {vm : Vm} {xs : List Int32} (F : ag0 Z h a xs) (hal : Z.vm.Alike vm) : Safe Z EL vm h a := by obtain ⟨k, z, A, -⟩ := F; exact Safe.arv hal A (by decide)
theorem em0 {C : String} {y z : MethodName} (hz : z.cls = y.cls) (hy : y.cls ≠ an8 ∧ y.cls ≠ ao8) (w5 : (Jvm.Cond.selects C z z).before args s = true) (wi : (Jvm.Cond.instanceMethod y).before args s = true) (hp : s.PrivateAt y) : (Jvm.Cond.selects y.cls y y).before args s = true := by
  obtain ⟨mk, mm, hn, hm, -, -⟩ := Cond.instanceMethod_spec wi
  obtain ⟨c2, r2, m2, -, -, q3, -, kP, hk, hi⟩ := Cond.selects_spec w5
  have a1 := findClass_of_methodNamed hn
  have a2 := findClass_of_methodNamed q3
  rw [hz] at a2
  have e : m2.cls = mk.cls := Option.some.inj (a2.symm.trans a1)
  rw [e] at hk
  have hs : selectMethod {} s.vm mk.cls mk = .method mk := selectMethod_private hm (hp mk mm hn hm)
  have hf := State.methodFound?_of_named hn hy
  simp [Cond.before, Cond.holds, Cond.value, a1, hf, hn, hs, hk, hi]
theorem dn5 {C : String} {y z : MethodName} (hz : z.cls = y.cls) (hy : y.cls ≠ an8 ∧ y.cls ≠ ao8) (w5 : (Jvm.Cond.selects C z z).before args s = true) (wi : (Jvm.Cond.instanceMethod y).before args s = true) : (Jvm.Cond.sameMethod y.cls y.cls y.name y.desc).before args s = true := by
  obtain ⟨mk, mm, hn, hm, -, -⟩ := Cond.instanceMethod_spec wi
  obtain ⟨c2, r2, m2, -, -, q3, -, kP, hk, hi⟩ := Cond.selects_spec w5
  have a1 := findClass_of_methodNamed hn
  have a2 := findClass_of_methodNamed q3
  rw [hz] at a2
  have e : m2.cls = mk.cls := Option.some.inj (a2.symm.trans a1)
  rw [e] at hk
  have hf := State.methodFound?_of_named hn hy
  have hn' : s.methodNamed? ⟨y.cls, y.name, y.desc⟩ = some mk := hn
  simp [Cond.before, Cond.holds, Cond.value, a1, hf, hn', hk, hi]
theorem cg5 {y z : MethodName} (hz : z.cls = y.cls) (wi : (Jvm.Cond.instanceMethod z).before args s = true) (H : NotFace s z) : NotFace s y := fun r0 h0 => by
  obtain ⟨mk, mm, hn, -⟩ := Cond.instanceMethod_spec wi
  obtain ⟨kr, h1, h2⟩ := H _ hn
  have a1 := findClass_of_methodNamed hn
  have a2 := findClass_of_methodNamed h0
  rw [hz] at a1
  have e : mk.cls = r0.cls := Option.some.inj (a1.symm.trans a2)
  exact ⟨kr, by rw [← e]; exact h1, h2⟩
theorem do5 (X : Stand p l e R s m args below meth c T locs cells slots) (hx : p.tables.exec = Jvm.exec) (hZ : Z.Warmed39 s.vm) {own C0 : String} {index : Nat} {y z : MethodName} {bytes : ByteArray} {maxL : Nat} {rt : Option FieldType} {rm : Room} {as' : Array Value} {Q : Option Value → Heap → List Loc → Prop}
    (hown : s.vm.findClass own = some m.cls) (w1 : (Jvm.Cond.methodLink own index y).before a0 Z = true) (w2 : (Jvm.Cond.instanceMethod y).before a0 Z = true) (hz : z.cls = y.cls) (w5 : (Jvm.Cond.selects C0 z z).before a0 Z = true) (w6 : (Jvm.Cond.privateMethod y).before a0 Z = true) (w3 : (Jvm.Cond.initialized y.cls).before a0 Z = true) (w4 : (Jvm.Cond.code y bytes maxL rt).before a0 Z = true) (hy : y.cls ≠ an8 ∧ y.cls ≠ ao8)
    {C : String} {a : Addr} (E : Exa Z h a C) (hM : as0 l Z y bytes maxL rt [] rm as' h Q) (W : Nat) (hf : rm.frames + 1 ≤ R.frames) (hl : W + (maxL + 11) + rm.locals ≤ R.locals) (eT : T.heap = h) (hc : cells + rm.cells ≤ R.cells) (hs : slots + rm.slots ≤ R.slots)
    {g : JFrame} (hg : g.method = m) (hsize : g.locals.size = c.maxLocals) {argsL rest : List Value} (ha : (Value.ref a :: argsL).toArray = as') (hlen : ∀ sig, parseMethodDescriptor y.desc = some sig → argsL.length = sig.parameters.length) (hstack : g.stack = argsL.reverse ++ .ref a :: rest) (hW : 2 * g.monitorRoom + (rest.map fun v => v.category).sum ≤ W) (hdg : decode c.code g.pc = .ok (.invokevirtual index, 3))
    (k : ∀ v T' L, Stand p l e R s m args below meth c T' (locs ++ L) (cells + rm.cells) (slots + rm.slots) → Q v T'.heap L → ac0 p e below P (T'.setTop { g with pc := g.pc + 3, stack := v.toList ++ rest })) : ac0 p e below P (T.setTop g) := by
  obtain ⟨cq, q1, q2⟩ := E.cell
  have hp : s.PrivateAt y := Cond.privateMethod_at (mvP hZ w6 (args := args))
  obtain ⟨v, vm₁, ⟨T', L', k', n'⟩, -, X', ⟨L, hQ, h1, h2, h3⟩, st⟩ := X.privateBack hx (y := y) hown (mvT hZ w1) (mvT hZ w2) (em0 hz hy (mvT hZ w5) (mvT hZ w2) hp) hp (mvT hZ w4) hy (backOf (W := W) hM hZ w4 w3 hf hl) hg hsize (Steps.refl _) (a := a) (by rw [eT]; exact q1) q2 hlen hstack hW hdg (fun _ _ => ⟨ha, eT, hc, hs⟩)
  dsimp only [Pt.U, Pt.locs, Pt.cells, Pt.slots] at X' h1 h2 h3 st hQ
  subst h1 h2 h3
  exact by2 st (k v T' L X' hQ)
theorem dp5 (X : Stand p l e R s m args below meth c T locs cells slots) (hx : p.tables.exec = Jvm.exec) (hZ : Z.Warmed39 s.vm) {own C0 : String} {index : Nat} {y z : MethodName} {bytes : ByteArray} {maxL : Nat} {rt : Option FieldType} {rm : Room} {as' : Array Value} {Q : Option Value → Heap → List Loc → Prop}
    (hown : s.vm.findClass own = some m.cls) (w1 : (Jvm.Cond.methodLink own index y).before a0 Z = true) (w2 : (Jvm.Cond.instanceMethod y).before a0 Z = true) (hz : z.cls = y.cls) (w5 : (Jvm.Cond.selects C0 z z).before a0 Z = true) (w6 : (Jvm.Cond.superclass own y.cls).before a0 Z = true) (hn : y.name ≠ "<init>") (w3 : (Jvm.Cond.initialized y.cls).before a0 Z = true) (w4 : (Jvm.Cond.code y bytes maxL rt).before a0 Z = true) (hy : y.cls ≠ an8 ∧ y.cls ≠ ao8)
    {C : String} {a : Addr} (E : Exa Z h a C) (hM : as0 l Z y bytes maxL rt [] rm as' h Q) (W : Nat) (hf : rm.frames + 1 ≤ R.frames) (hl : W + (maxL + 11) + rm.locals ≤ R.locals) (eT : T.heap = h) (hc : cells + rm.cells ≤ R.cells) (hs : slots + rm.slots ≤ R.slots)
    {g : JFrame} (hg : g.method = m) (hsize : g.locals.size = c.maxLocals) {argsL rest : List Value} (ha : (Value.ref a :: argsL).toArray = as') (hlen : ∀ sig, parseMethodDescriptor y.desc = some sig → argsL.length = sig.parameters.length) (hstack : g.stack = argsL.reverse ++ .ref a :: rest) (hW : 2 * g.monitorRoom + (rest.map fun v => v.category).sum ≤ W) (hdg : decode c.code g.pc = .ok (.invokespecial index, 3))
    (k : ∀ v T' L, Stand p l e R s m args below meth c T' (locs ++ L) (cells + rm.cells) (slots + rm.slots) → Q v T'.heap L → ac0 p e below P (T'.setTop { g with pc := g.pc + 3, stack := v.toList ++ rest })) : ac0 p e below P (T.setTop g) := by
  obtain ⟨v, vm₁, ⟨T', L', k', n'⟩, -, X', ⟨L, hQ, h1, h2, h3⟩, st⟩ := superBack X hx hZ hown w1 (dn5 hz hy w5 w2) w2 w6 hn (backOf (W := W) hM hZ w4 w3 hf hl) eT (Ins.self E) hg hsize w4 hlen hstack hW hdg (fun _ _ => ⟨ha, eT, hc, hs⟩)
  dsimp only [Pt.U, Pt.locs, Pt.cells, Pt.slots] at X' h1 h2 h3 st hQ
  subst h1 h2 h3
  exact by2 st (k v T' L X' hQ)
end OwnN
theorem bm7 {Z : State} {h : Heap} {a : Addr} {n : Nat} (F : ao0 Z h a n) : ∃ c : Cell, h[a]? = some c ∧ c.vm.isStatics = false := by obtain ⟨k, z, vs, A, -⟩ := F; exact cq5 A
section OwnZ
variable {p : Program} {l : Launch} {e : Env} {R : Room} {s : State} {m : MethodId} {args : Array Value} {below : List Frame} {meth : Method} {c : Code} {T : State} {locs : List Loc} {cells slots : Nat} {Z : State} {a0 : Array Value} {h : Heap} {P : Outcome → State → Prop} {pc : Nat} {Ls : Array Slot} {S : List Value}
theorem az2 (X : Stand p l e R s m args below meth c T locs cells slots) (hx : p.tables.exec = Jvm.exec) {k : Nat} {v : Value} (hd : decode c.code pc = .ok (.aload k, 2)) (hl : Ls[k]? = some (.val v)) (hv : v.isRef = true) (r : ac0 p e below P (T.setTop (mkF m (pc + 2) Ls (v :: S)))) : ac0 p e below P (T.setTop (mkF m (pc) Ls (S))) := ae1 (fun _ => XS.aload X.here hx rfl hd hl hv) r
theorem ab0 (X : Stand p l e R s m args below meth c T locs cells slots) (hx : p.tables.exec = Jvm.exec) {k : Fin 4} {v : Value} (hd : decode c.code pc = .ok (.aload_n k, 1)) (hl : Ls[k.val]? = some (.val v)) (hv : v.isRef = true) (r : ac0 p e below P (T.setTop (mkF m (pc + 1) Ls (v :: S)))) : ac0 p e below P (T.setTop (mkF m (pc) Ls (S))) := ae1 (fun _ => XS.aloadN X.here hx rfl hd hl hv) r
theorem ak0 (X : Stand p l e R s m args below meth c T locs cells slots) (hx : p.tables.exec = Jvm.exec) {k : Nat} {v : Int32} (hd : decode c.code pc = .ok (.iload k, 2)) (hl : Ls[k]? = some (.val (.int v))) (r : ac0 p e below P (T.setTop (mkF m (pc + 2) Ls (.int v :: S)))) : ac0 p e below P (T.setTop (mkF m (pc) Ls (S))) := ae1 (fun _ => XS.iload X.here hx rfl hd hl) r
theorem ae0 (X : Stand p l e R s m args below meth c T locs cells slots) (hx : p.tables.exec = Jvm.exec) {k : Fin 4} {v : Int32} (hd : decode c.code pc = .ok (.iload_n k, 1)) (hl : Ls[k.val]? = some (.val (.int v))) (r : ac0 p e below P (T.setTop (mkF m (pc + 1) Ls (.int v :: S)))) : ac0 p e below P (T.setTop (mkF m (pc) Ls (S))) := ae1 (fun _ => XS.iloadN X.here hx rfl hd hl) r
theorem ai1 (X : Stand p l e R s m args below meth c T locs cells slots) (hx : p.tables.exec = Jvm.exec) {k : Nat} {x : Int32} {l' : Array Slot} (hd : decode c.code pc = .ok (.istore k, 2)) (hl : storeLocals Ls k (.int x) = some l') (r : ac0 p e below P (T.setTop (mkF m (pc + 2) l' (S)))) : ac0 p e below P (T.setTop (mkF m (pc) Ls (.int x :: S))) := ae1 (fun _ => XS.istore X.here hx rfl hd rfl hl) r
theorem aj2 (X : Stand p l e R s m args below meth c T locs cells slots) (hx : p.tables.exec = Jvm.exec) {k : Fin 4} {x : Int32} {l' : Array Slot} (hd : decode c.code pc = .ok (.istore_n k, 1)) (hl : storeLocals Ls k.val (.int x) = some l') (r : ac0 p e below P (T.setTop (mkF m (pc + 1) l' (S)))) : ac0 p e below P (T.setTop (mkF m (pc) Ls (.int x :: S))) := ae1 (fun _ => XS.istoreN X.here hx rfl hd rfl hl) r
theorem ak7 (X : Stand p l e R s m args below meth c T locs cells slots) (hx : p.tables.exec = Jvm.exec) {k : Nat} {x : Value} {l' : Array Slot} (hd : decode c.code pc = .ok (.astore k, 2)) (hv : x.isRef = true) (hl : storeLocals Ls k x = some l') (r : ac0 p e below P (T.setTop (mkF m (pc + 2) l' (S)))) : ac0 p e below P (T.setTop (mkF m (pc) Ls (x :: S))) := ae1 (fun _ => XS.astore X.here hx rfl hd rfl hv hl) r
theorem av2 (X : Stand p l e R s m args below meth c T locs cells slots) (hx : p.tables.exec = Jvm.exec) {k : Fin 4} {x : Value} {l' : Array Slot} (hd : decode c.code pc = .ok (.astore_n k, 1)) (hv : x.isRef = true) (hl : storeLocals Ls k.val x = some l') (r : ac0 p e below P (T.setTop (mkF m (pc + 1) l' (S)))) : ac0 p e below P (T.setTop (mkF m (pc) Ls (x :: S))) := ae1 (fun _ => XS.astoreN X.here hx rfl hd rfl hv hl) r
theorem am0 (X : Stand p l e R s m args below meth c T locs cells slots) (hx : p.tables.exec = Jvm.exec) {i : Int} {z : Int32} (hd : decode c.code pc = .ok (.iconst i, 1)) (hz : Int32.ofInt i = z) (r : ac0 p e below P (T.setTop (mkF m (pc + 1) Ls (.int z :: S)))) : ac0 p e below P (T.setTop (mkF m (pc) Ls (S))) := by subst hz; exact ae1 (fun _ => XS.iconst X.here hx rfl hd) r
theorem ak8 (X : Stand p l e R s m args below meth c T locs cells slots) (hx : p.tables.exec = Jvm.exec) {i : Int} {z : Int32} (hd : decode c.code pc = .ok (.bipush i, 2)) (hz : (Int8.ofInt i).toInt32 = z) (r : ac0 p e below P (T.setTop (mkF m (pc + 2) Ls (.int z :: S)))) : ac0 p e below P (T.setTop (mkF m (pc) Ls (S))) := by subst hz; exact ae1 (fun _ => XS.bipush X.here hx rfl hd) r
theorem ey3 (X : Stand p l e R s m args below meth c T locs cells slots) (hx : p.tables.exec = Jvm.exec) {i : Int} {z : Int32} (hd : decode c.code pc = .ok (.sipush i, 3)) (hz : (Int16.ofInt i).toInt32 = z) (r : ac0 p e below P (T.setTop (mkF m (pc + 3) Ls (.int z :: S)))) : ac0 p e below P (T.setTop (mkF m (pc) Ls (S))) := by subst hz; exact ae1 (fun _ => XS.sipush X.here hx rfl hd) r
theorem ai8 (X : Stand p l e R s m args below meth c T locs cells slots) (hx : p.tables.exec = Jvm.exec) (hd : decode c.code pc = .ok (.aconst_null, 1)) (r : ac0 p e below P (T.setTop (mkF m (pc + 1) Ls (.null :: S)))) : ac0 p e below P (T.setTop (mkF m (pc) Ls (S))) := ae1 (fun _ => XS.aconstNull X.here hx rfl hd) r
theorem am2 (X : Stand p l e R s m args below meth c T locs cells slots) (hx : p.tables.exec = Jvm.exec) {x y z : Int32} (hd : decode c.code pc = .ok (.iadd, 1)) (hz : x + y = z) (r : ac0 p e below P (T.setTop (mkF m (pc + 1) Ls (.int z :: S)))) : ac0 p e below P (T.setTop (mkF m (pc) Ls (.int y :: .int x :: S))) := by subst hz; exact ae1 (fun _ => XS.iadd X.here hx rfl hd rfl) r
theorem ar2 (X : Stand p l e R s m args below meth c T locs cells slots) (hx : p.tables.exec = Jvm.exec) {x y z : Int32} (hd : decode c.code pc = .ok (.isub, 1)) (hz : x - y = z) (r : ac0 p e below P (T.setTop (mkF m (pc + 1) Ls (.int z :: S)))) : ac0 p e below P (T.setTop (mkF m (pc) Ls (.int y :: .int x :: S))) := by subst hz; exact ae1 (fun _ => XS.isub X.here hx rfl hd rfl) r
theorem et4 (X : Stand p l e R s m args below meth c T locs cells slots) (hx : p.tables.exec = Jvm.exec) {x y z : Int32} (hd : decode c.code pc = .ok (.imul, 1)) (hz : x * y = z) (r : ac0 p e below P (T.setTop (mkF m (pc + 1) Ls (.int z :: S)))) : ac0 p e below P (T.setTop (mkF m (pc) Ls (.int y :: .int x :: S))) := by subst hz; exact ae1 (fun _ => XS.imul X.here hx rfl hd rfl) r
theorem an9 (X : Stand p l e R s m args below meth c T locs cells slots) (hx : p.tables.exec = Jvm.exec) {x y z : Int32} (hd : decode c.code pc = .ok (.iand, 1)) (hz : x &&& y = z) (r : ac0 p e below P (T.setTop (mkF m (pc + 1) Ls (.int z :: S)))) : ac0 p e below P (T.setTop (mkF m (pc) Ls (.int y :: .int x :: S))) := by subst hz; exact ae1 (fun _ => XS.iand X.here hx rfl hd rfl) r
theorem ey4 (X : Stand p l e R s m args below meth c T locs cells slots) (hx : p.tables.exec = Jvm.exec) {x y z : Int32} (hd : decode c.code pc = .ok (.ior, 1)) (hz : x ||| y = z) (r : ac0 p e below P (T.setTop (mkF m (pc + 1) Ls (.int z :: S)))) : ac0 p e below P (T.setTop (mkF m (pc) Ls (.int y :: .int x :: S))) := by subst hz; exact ae1 (fun _ => XS.ior X.here hx rfl hd rfl) r
theorem eu4 (X : Stand p l e R s m args below meth c T locs cells slots) (hx : p.tables.exec = Jvm.exec) {x y z : Int32} (hd : decode c.code pc = .ok (.ixor, 1)) (hz : x ^^^ y = z) (r : ac0 p e below P (T.setTop (mkF m (pc + 1) Ls (.int z :: S)))) : ac0 p e below P (T.setTop (mkF m (pc) Ls (.int y :: .int x :: S))) := by subst hz; exact ae1 (fun _ => XS.ixor X.here hx rfl hd rfl) r
theorem aa9 (X : Stand p l e R s m args below meth c T locs cells slots) (hx : p.tables.exec = Jvm.exec) {x y z : Int32} (hd : decode c.code pc = .ok (.ishl, 1)) (hz : x <<< (y &&& 31) = z) (r : ac0 p e below P (T.setTop (mkF m (pc + 1) Ls (.int z :: S)))) : ac0 p e below P (T.setTop (mkF m (pc) Ls (.int y :: .int x :: S))) := by subst hz; exact ae1 (fun _ => XS.ishl X.here hx rfl hd rfl) r
theorem al8 (X : Stand p l e R s m args below meth c T locs cells slots) (hx : p.tables.exec = Jvm.exec) {x y z : Int32} (hd : decode c.code pc = .ok (.ishr, 1)) (hz : x >>> (y &&& 31) = z) (r : ac0 p e below P (T.setTop (mkF m (pc + 1) Ls (.int z :: S)))) : ac0 p e below P (T.setTop (mkF m (pc) Ls (.int y :: .int x :: S))) := by subst hz; exact ae1 (fun _ => XS.ishr X.here hx rfl hd rfl) r
theorem eh4 (X : Stand p l e R s m args below meth c T locs cells slots) (hx : p.tables.exec = Jvm.exec) {x y z : Int32} (hd : decode c.code pc = .ok (.iushr, 1)) (hz : (x.toUInt32 >>> (y &&& 31).toUInt32).toInt32 = z) (r : ac0 p e below P (T.setTop (mkF m (pc + 1) Ls (.int z :: S)))) : ac0 p e below P (T.setTop (mkF m (pc) Ls (.int y :: .int x :: S))) := by subst hz; exact ae1 (fun _ => XS.iushr X.here hx rfl hd rfl) r
theorem ez4 (X : Stand p l e R s m args below meth c T locs cells slots) (hx : p.tables.exec = Jvm.exec) {x z : Int32} (hd : decode c.code pc = .ok (.i2b, 1)) (hz : x.toInt8.toInt32 = z) (r : ac0 p e below P (T.setTop (mkF m (pc + 1) Ls (.int z :: S)))) : ac0 p e below P (T.setTop (mkF m (pc) Ls (.int x :: S))) := by subst hz; exact ae1 (fun _ => XS.i2b X.here hx rfl hd rfl) r
theorem ea5 (X : Stand p l e R s m args below meth c T locs cells slots) (hx : p.tables.exec = Jvm.exec) {x z : Int32} (hd : decode c.code pc = .ok (.i2c, 1)) (hz : x.toUInt32.toUInt16.toUInt32.toInt32 = z) (r : ac0 p e below P (T.setTop (mkF m (pc + 1) Ls (.int z :: S)))) : ac0 p e below P (T.setTop (mkF m (pc) Ls (.int x :: S))) := by subst hz; exact ae1 (fun _ => XS.i2c X.here hx rfl hd rfl) r
theorem an6 (X : Stand p l e R s m args below meth c T locs cells slots) (hx : p.tables.exec = Jvm.exec) {x : Value} (hd : decode c.code pc = .ok (.dup, 1)) (hc : x.category = 1) (r : ac0 p e below P (T.setTop (mkF m (pc + 1) Ls (x :: x :: S)))) : ac0 p e below P (T.setTop (mkF m (pc) Ls (x :: S))) := ae1 (fun _ => XS.dup X.here hx rfl hd rfl hc) r
theorem bs5 (X : Stand p l e R s m args below meth c T locs cells slots) (hx : p.tables.exec = Jvm.exec) {x : Value} (hd : decode c.code pc = .ok (.pop, 1)) (hc : x.category = 1) (r : ac0 p e below P (T.setTop (mkF m (pc + 1) Ls (S)))) : ac0 p e below P (T.setTop (mkF m (pc) Ls (x :: S))) := ae1 (fun _ => XS.pop X.here hx rfl hd rfl hc) r
theorem ej4 (X : Stand p l e R s m args below meth c T locs cells slots) (hx : p.tables.exec = Jvm.exec) {x y : Value} (hd : decode c.code pc = .ok (.dup_x1, 1)) (hc : x.category = 1) (hc2 : y.category = 1) (r : ac0 p e below P (T.setTop (mkF m (pc + 1) Ls (x :: y :: x :: S)))) : ac0 p e below P (T.setTop (mkF m (pc) Ls (x :: y :: S))) := ae1 (fun _ => XS.dupX1 X.here hx rfl hd rfl hc hc2) r
theorem ev4 (X : Stand p l e R s m args below meth c T locs cells slots) (hx : p.tables.exec = Jvm.exec) {x y : Value} (hd : decode c.code pc = .ok (.dup2, 1)) (hc : x.category = 1) (hc2 : y.category = 1) (r : ac0 p e below P (T.setTop (mkF m (pc + 1) Ls (x :: y :: x :: y :: S)))) : ac0 p e below P (T.setTop (mkF m (pc) Ls (x :: y :: S))) := ae1 (fun _ => Jvm.Free.XT.dup2 X.here hx rfl hd rfl hc hc2) r
theorem am1 (X : Stand p l e R s m args below meth c T locs cells slots) (hx : p.tables.exec = Jvm.exec) {o : Int} {pc' : Nat} (hd : decode c.code pc = .ok (.goto o, 3)) (r : ac0 p e below P (T.setTop (mkF m (pc') Ls (S)))) (ho : 0 ≤ (pc : Int) + o := by decide) (hp : ((pc : Int) + o).toNat = pc' := by decide) : ac0 p e below P (T.setTop (mkF m (pc) Ls (S))) := ae1 (fun _ => XS.goto X.here hx rfl (pc0 := pc) (pc' := pc') rfl hd ho hp) r
theorem ak4 (X : Stand p l e R s m args below meth c T locs cells slots) (hx : p.tables.exec = Jvm.exec) {cd : ClassFile.Cond} {x : Int32} {o : Int} {pc' : Nat} (hd : decode c.code pc = .ok (.ifCond cd o, 3)) (hc : ifCond.holds cd x = true) (r : ac0 p e below P (T.setTop (mkF m (pc') Ls (S)))) (ho : 0 ≤ (pc : Int) + o := by decide) (hp : ((pc : Int) + o).toNat = pc' := by decide) : ac0 p e below P (T.setTop (mkF m (pc) Ls (.int x :: S))) := ae1 (fun _ => XS.ifYes X.here hx rfl (pc0 := pc) (pc' := pc') rfl hd rfl hc ho hp) r
theorem aa3 (X : Stand p l e R s m args below meth c T locs cells slots) (hx : p.tables.exec = Jvm.exec) {cd : ClassFile.Cond} {x : Int32} {o : Int} (hd : decode c.code pc = .ok (.ifCond cd o, 3)) (hc : ifCond.holds cd x = false) (r : ac0 p e below P (T.setTop (mkF m (pc + 3) Ls (S)))) : ac0 p e below P (T.setTop (mkF m (pc) Ls (.int x :: S))) := ae1 (fun _ => XS.ifNo X.here hx rfl hd rfl hc) r
theorem au0 (X : Stand p l e R s m args below meth c T locs cells slots) (hx : p.tables.exec = Jvm.exec) {cd : ClassFile.Cond} {x y : Int32} {o : Int} {pc' : Nat} (hd : decode c.code pc = .ok (.if_icmp cd o, 3)) (hc : if_icmp.holds cd x y = true) (r : ac0 p e below P (T.setTop (mkF m (pc') Ls (S)))) (ho : 0 ≤ (pc : Int) + o := by decide) (hp : ((pc : Int) + o).toNat = pc' := by decide) : ac0 p e below P (T.setTop (mkF m (pc) Ls (.int y :: .int x :: S))) := ae1 (fun _ => XS.icmpYes X.here hx rfl (pc0 := pc) (pc' := pc') rfl hd rfl hc ho hp) r
theorem av0 (X : Stand p l e R s m args below meth c T locs cells slots) (hx : p.tables.exec = Jvm.exec) {cd : ClassFile.Cond} {x y : Int32} {o : Int} (hd : decode c.code pc = .ok (.if_icmp cd o, 3)) (hc : if_icmp.holds cd x y = false) (r : ac0 p e below P (T.setTop (mkF m (pc + 3) Ls (S)))) : ac0 p e below P (T.setTop (mkF m (pc) Ls (.int y :: .int x :: S))) := ae1 (fun _ => XS.icmpNo X.here hx rfl hd rfl hc) r
theorem eu2 (X : Stand p l e R s m args below meth c T locs cells slots) (hx : p.tables.exec = Jvm.exec) {o : Int} {pc' : Nat} (hd : decode c.code pc = .ok (.ifnull o, 3)) (r : ac0 p e below P (T.setTop (mkF m (pc') Ls (S)))) (ho : 0 ≤ (pc : Int) + o := by decide) (hp : ((pc : Int) + o).toNat = pc' := by decide) : ac0 p e below P (T.setTop (mkF m (pc) Ls (.null :: S))) := ae1 (fun _ => XS.ifnullYes X.here hx rfl (pc0 := pc) (pc' := pc') rfl hd rfl ho hp) r
theorem ez2 (X : Stand p l e R s m args below meth c T locs cells slots) (hx : p.tables.exec = Jvm.exec) {o : Int} {b : Addr} (hd : decode c.code pc = .ok (.ifnull o, 3)) (r : ac0 p e below P (T.setTop (mkF m (pc + 3) Ls (S)))) : ac0 p e below P (T.setTop (mkF m (pc) Ls (.ref b :: S))) := ae1 (fun _ => XS.ifnullNo X.here hx rfl hd rfl) r
theorem al7 (X : Stand p l e R s m args below meth c T locs cells slots) (hx : p.tables.exec = Jvm.exec) {b : Addr} {o : Int} {pc' : Nat} (hd : decode c.code pc = .ok (.ifnonnull o, 3)) (r : ac0 p e below P (T.setTop (mkF m (pc') Ls (S)))) (ho : 0 ≤ (pc : Int) + o := by decide) (hp : ((pc : Int) + o).toNat = pc' := by decide) : ac0 p e below P (T.setTop (mkF m (pc) Ls (.ref b :: S))) := ae1 (fun _ => XS.ifnonnullYes X.here hx rfl (pc0 := pc) (pc' := pc') rfl hd rfl ho hp) r
theorem el2 (X : Stand p l e R s m args below meth c T locs cells slots) (hx : p.tables.exec = Jvm.exec) {o : Int} (hd : decode c.code pc = .ok (.ifnonnull o, 3)) (r : ac0 p e below P (T.setTop (mkF m (pc + 3) Ls (S)))) : ac0 p e below P (T.setTop (mkF m (pc) Ls (.null :: S))) := ae1 (fun _ => XS.ifnonnullNo X.here hx rfl hd rfl) r
theorem aq1 (X : Stand p l e R s m args below meth c T locs cells slots) (hx : p.tables.exec = Jvm.exec) {k : Nat} {cst : Int} {x : Int32} {l' : Array Slot} (hd : decode c.code pc = .ok (.iinc k cst, 3)) (hl : Ls[k]? = some (.val (.int x))) (hl' : storeLocals Ls k (.int (x + Int32.ofInt cst)) = some l') (r : ac0 p e below P (T.setTop (mkF m (pc + 3) l' (S)))) : ac0 p e below P (T.setTop (mkF m (pc) Ls (S))) := ae1 (fun _ => XS.iinc X.here hx rfl hd hl hl') r
theorem ew4 (X : Stand p l e R s m args below meth c T locs cells slots) (hx : p.tables.exec = Jvm.exec) {cd : ACond} {x y : Value} (h1 : x.isRef = true) (h2 : y.isRef = true) {o : Int} {pc' : Nat} {same : Bool} (hd : decode c.code pc = .ok (.if_acmp cd o, 3)) (hq : decide (x = y) = same) (r : ac0 p e below P (T.setTop (mkF m (pc') Ls (S)))) (ho : 0 ≤ (pc : Int) + o := by decide) (hp : pc' = (if acV cd same = true then ((pc : Int) + o).toNat else pc + 3) := by decide) : ac0 p e below P (T.setTop (mkF m (pc) Ls (y :: x :: S))) := ae1 (fun _ => Jvm.RoadKit.acmp (g := mkF m pc Ls (y :: x :: S)) X hx rfl h1 h2 (pc0 := pc) (pc' := pc') rfl hd rfl hq ho hp) r
theorem ak1 (X : Stand p l e R s m args below meth c T locs cells slots) (hx : p.tables.exec = Jvm.exec) (hZ : Z.Warmed39 s.vm) {own R0 O n d host : String} {index : Nat} (hown : s.vm.findClass own = some m.cls) (w : (Jvm.Cond.fieldLink own index R0 n d).before a0 Z = true ∨ (Jvm.Cond.fieldLinkNest own index R0 n d host).before a0 Z = true) (via : Via Z R0 O n d) (eT : T.heap = h) {a : Addr} {v : Value} (F : Fld Z h a O n d v) (hd : decode c.code pc = .ok (.getfield index, 3)) (k : ∀ T', Stand p l e R s m args below meth c T' locs cells slots → T'.heap = h → ac0 p e below P (T'.setTop (mkF m (pc + 3) Ls (v :: S)))) : ac0 p e below P (T.setTop (mkF m (pc) Ls (.ref a :: S))) := by
  obtain ⟨T', X', e', st⟩ := getF X hx hZ hown w via eT F (g := mkF m pc Ls (.ref a :: S)) rfl rfl hd
  exact ae1 st (k T' X' e')
theorem cz4 (X : Stand p l e R s m args below meth c T locs cells slots) (hx : p.tables.exec = Jvm.exec) (hZ : Z.Warmed39 s.vm) {own R0 O n d host : String} {index : Nat} (hown : s.vm.findClass own = some m.cls) (w : (Jvm.Cond.fieldLink own index R0 n d).before a0 Z = true ∨ (Jvm.Cond.fieldLinkNest own index R0 n d host).before a0 Z = true) (via : Via Z R0 O n d) (eT : T.heap = h) {v : Value} (F : Sta Z h O n d v) (hd : decode c.code pc = .ok (.getstatic index, 3)) (k : ∀ T', Stand p l e R s m args below meth c T' locs cells slots → T'.heap = h → ac0 p e below P (T'.setTop (mkF m (pc + 3) Ls (v :: S)))) : ac0 p e below P (T.setTop (mkF m (pc) Ls (S))) := by
  obtain ⟨T', X', e', st⟩ := getS2 X hx hZ hown w via eT F (g := mkF m pc Ls S) rfl hd
  exact ae1 st (k T' X' e')
theorem aj7 (X : Stand p l e R s m args below meth c T locs cells slots) (hx : p.tables.exec = Jvm.exec) (hZ : Z.Warmed39 s.vm) {own R0 O n d host C : String} {index kk : Nat} {ty : FieldType} (hown : s.vm.findClass own = some m.cls) (w : (Jvm.Cond.fieldLink own index R0 n d).before a0 Z = true ∨ (Jvm.Cond.fieldLinkNest own index R0 n d host).before a0 Z = true) (via : Via Z R0 O n d) (eT : T.heap = h) {a : Addr} {v old : Value} (F : Fld Z h a O n d old) (Ex : Exa Z h a C) (L : (Jvm.Cond.lays C O n d).before a0 Z = true ∨ ((Jvm.Cond.laysFinal C O n d).before a0 Z = true ∧ own = O ∧ meth.name = "<init>")) (wi : (Jvm.Cond.instantiable C kk).before a0 Z = true) (hty : parseFieldDescriptor d = some ty) (hd : decode c.code pc = .ok (.putfield index, 3)) (k : ∀ T' h', Stand p l e R s m args below meth c T' (locs ++ [⟨a, Jvm.RoadKit.slotOf Z O n d⟩]) cells slots → T'.heap = h' → Wr h h' a (Jvm.RoadKit.slotOf Z O n d) v → ac0 p e below P (T'.setTop (mkF m (pc + 3) Ls (S)))) (hn : narrow ty v = v := by rfl) (hf : fits ty v = true := by rfl) : ac0 p e below P (T.setTop (mkF m (pc) Ls (v :: .ref a :: S))) := by
  obtain ⟨T', h', X', e', W, st⟩ := putF X hx hZ hown w via eT F Ex L wi hty hn hf (g := mkF m pc Ls (v :: .ref a :: S)) rfl rfl hd
  exact ae1 st (k T' h' X' e' W)
end OwnZ
section OwnZC
variable {p : Program} {l : Launch} {e : Env} {R : Room} {s : State} {m : MethodId} {args : Array Value} {below : List Frame} {meth : Method} {c : Code} {T : State} {locs : List Loc} {cells slots : Nat} {Z : State} {a0 : Array Value} {h : Heap} {P : Outcome → State → Prop} {pc : Nat} {Ls : Array Slot} {S : List Value}
theorem af1 (X : Stand p l e R s m args below meth c T locs cells slots) (hx : p.tables.exec = Jvm.exec) (hZ : Z.Warmed39 s.vm) {own : String} {index : Nat} {y : MethodName} {bytes : ByteArray} {maxL : Nat} {rt : Option FieldType} {rm : Room} {as' : Array Value} {Q : Option Value → Heap → List Loc → Prop}
    (hown : s.vm.findClass own = some m.cls) (w1 : (Jvm.Cond.methodLink own index y).before a0 Z = true) (w2 : (Jvm.Cond.static y).before a0 Z = true) (w3 : (Jvm.Cond.initialized y.cls).before a0 Z = true) (w4 : (Jvm.Cond.code y bytes maxL rt).before a0 Z = true) 
    (hM : as0 l Z y bytes maxL rt [] rm as' h Q) (W : Nat) (eT : T.heap = h) {nl : Nat} (hml : c.maxLocals = nl) {argsL rest stk : List Value} (hlen : ∀ sig, parseMethodDescriptor y.desc = some sig → argsL.length = sig.parameters.length) (hdg : decode c.code pc = .ok (.invokestatic index, 3)) (k : ∀ v T' L, Stand p l e R s m args below meth c T' (locs ++ L) (cells + rm.cells) (slots + rm.slots) → Q v T'.heap L → ac0 p e below P (T'.setTop (mkF m (pc + 3) Ls (v.toList ++ rest)))) (hy : y.cls ≠ an8 ∧ y.cls ≠ ao8 := by decide) (hf : rm.frames + 1 ≤ R.frames := by decide) (hl : W + (maxL + 11) + rm.locals ≤ R.locals := by decide) (hc : cells + rm.cells ≤ R.cells := by decide) (hs : slots + rm.slots ≤ R.slots := by decide) (ha : (argsL).toArray = as' := by rfl) (hstack : stk = argsL.reverse ++ rest := by rfl) (hW : (rest.map fun v => v.category).sum ≤ W := by exact Nat.le_of_eq rfl) (hn' : Ls.size = nl := by rfl) : ac0 p e below P (T.setTop (mkF m (pc) Ls (stk))) :=
  dg5 X hx hZ hown w1 w2 w3 w4 hy hM W hf hl eT hc hs (g := mkF m pc Ls stk) rfl (by rw [hml]; exact hn') ha hlen hstack (by show 2 * 0 + _ ≤ _; rw [Nat.mul_zero, Nat.zero_add]; exact hW) hdg k
theorem ai9 (X : Stand p l e R s m args below meth c T locs cells slots) (hx : p.tables.exec = Jvm.exec) (hZ : Z.Warmed39 s.vm) {own : String} {index : Nat} {y : MethodName} {bytes : ByteArray} {maxL : Nat} {rm : Room} {as' : Array Value} {Q : Option Value → Heap → List Loc → Prop}
    (hown : s.vm.findClass own = some m.cls) (w1 : (Jvm.Cond.methodLink own index y).before a0 Z = true) (w2 : (Jvm.Cond.instanceMethod y).before a0 Z = true) (w3 : (Jvm.Cond.initialized y.cls).before a0 Z = true) (w4 : (Jvm.Cond.code y bytes maxL none).before a0 Z = true) 
    (hM : as0 l Z y bytes maxL none [] rm as' h Q) (W : Nat) (eT : T.heap = h) {nl : Nat} (hml : c.maxLocals = nl) {a : Addr} {argsL rest stk : List Value} (hlen : ∀ sig, parseMethodDescriptor y.desc = some sig → argsL.length = sig.parameters.length) (hdg : decode c.code pc = .ok (.invokespecial index, 3)) (k : ∀ v T' L, Stand p l e R s m args below meth c T' (locs ++ L) (cells + rm.cells) (slots + rm.slots) → Q v T'.heap L → ac0 p e below P (T'.setTop (mkF m (pc + 3) Ls (v.toList ++ rest)))) (hy : y.cls ≠ an8 ∧ y.cls ≠ ao8 := by decide) (hy1 : y.name = "<init>" := by rfl) (hf : rm.frames + 1 ≤ R.frames := by decide) (hl : W + (maxL + 11) + rm.locals ≤ R.locals := by decide) (hc : cells + rm.cells ≤ R.cells := by decide) (hs : slots + rm.slots ≤ R.slots := by decide) (ha : (Value.ref a :: argsL).toArray = as' := by rfl) (hstack : stk = argsL.reverse ++ .ref a :: rest := by rfl) (hW : (rest.map fun v => v.category).sum ≤ W := by exact Nat.le_of_eq rfl) (hn' : Ls.size = nl := by rfl) : ac0 p e below P (T.setTop (mkF m (pc) Ls (stk))) :=
  dh5 X hx hZ hy1 hown w1 w2 w3 w4 hy hM W hf hl eT hc hs (g := mkF m pc Ls stk) rfl (by rw [hml]; exact hn') ha hlen hstack (by show 2 * 0 + _ ≤ _; rw [Nat.mul_zero, Nat.zero_add]; exact hW) hdg k
theorem ag2 (X : Stand p l e R s m args below meth c T locs cells slots) (hx : p.tables.exec = Jvm.exec) (hZ : Z.Warmed39 s.vm) {own C : String} {index : Nat} {y z : MethodName} {bytes : ByteArray} {maxL : Nat} {rt : Option FieldType} {rm : Room} {as' : Array Value} {Q : Option Value → Heap → List Loc → Prop}
    (hown : s.vm.findClass own = some m.cls) (w1 : (Jvm.Cond.methodLink own index y).before a0 Z = true) (w2 : (Jvm.Cond.declares y).before a0 Z = true) (hnf : NotFace s y) (w5 : (Jvm.Cond.selects C y z).before a0 Z = true) (w6 : (Jvm.Cond.instanceMethod z).before a0 Z = true) (w3 : (Jvm.Cond.initialized z.cls).before a0 Z = true) (w4 : (Jvm.Cond.code z bytes maxL rt).before a0 Z = true) 
    {a : Addr} (E : Exa Z h a C) (hM : as0 l Z z bytes maxL rt [] rm as' h Q) (W : Nat) (eT : T.heap = h) {nl : Nat} (hml : c.maxLocals = nl) {argsL rest stk : List Value} (hlen : ∀ sig, parseMethodDescriptor y.desc = some sig → argsL.length = sig.parameters.length) (hdg : decode c.code pc = .ok (.invokevirtual index, 3)) (k : ∀ v T' L, Stand p l e R s m args below meth c T' (locs ++ L) (cells + rm.cells) (slots + rm.slots) → Q v T'.heap L → ac0 p e below P (T'.setTop (mkF m (pc + 3) Ls (v.toList ++ rest)))) (hy : y.cls ≠ an8 ∧ y.cls ≠ ao8 := by decide) (hf : rm.frames + 1 ≤ R.frames := by decide) (hl : W + (maxL + 11) + rm.locals ≤ R.locals := by decide) (hc : cells + rm.cells ≤ R.cells := by decide) (hs : slots + rm.slots ≤ R.slots := by decide) (ha : (Value.ref a :: argsL).toArray = as' := by rfl) (hstack : stk = argsL.reverse ++ .ref a :: rest := by rfl) (hW : (rest.map fun v => v.category).sum ≤ W := by exact Nat.le_of_eq rfl) (hn' : Ls.size = nl := by rfl) : ac0 p e below P (T.setTop (mkF m (pc) Ls (stk))) :=
  di5 X hx hZ hown w1 w2 hnf w5 w6 w3 w4 hy E hM W hf hl eT hc hs (g := mkF m pc Ls stk) rfl (by rw [hml]; exact hn') ha hlen hstack (by show 2 * 0 + _ ≤ _; rw [Nat.mul_zero, Nat.zero_add]; exact hW) hdg k
end OwnZC
section OwnZC
variable {p : Program} {l : Launch} {e : Env} {R : Room} {s : State} {m : MethodId} {args : Array Value} {below : List Frame} {meth : Method} {c : Code} {T : State} {locs : List Loc} {cells slots : Nat} {Z : State} {a0 : Array Value} {h : Heap} {P : Outcome → State → Prop} {pc : Nat} {Ls : Array Slot} {S : List Value}
theorem a5 (X : Stand p l e R s m args below meth c T locs cells slots) (hx : p.tables.exec = Jvm.exec) (hZ : Z.Warmed39 s.vm) {own C0 : String} {index : Nat} {y z : MethodName} {bytes : ByteArray} {maxL : Nat} {rt : Option FieldType} {rm : Room} {as' : Array Value} {Q : Option Value → Heap → List Loc → Prop}
    (hown : s.vm.findClass own = some m.cls) (w1 : (Jvm.Cond.methodLink own index y).before a0 Z = true) (w2 : (Jvm.Cond.instanceMethod y).before a0 Z = true) (hz : z.cls = y.cls) (w5 : (Jvm.Cond.selects C0 z z).before a0 Z = true) (w6 : (Jvm.Cond.privateMethod y).before a0 Z = true) (w3 : (Jvm.Cond.initialized y.cls).before a0 Z = true) (w4 : (Jvm.Cond.code y bytes maxL rt).before a0 Z = true) 
    {C : String} {a : Addr} (E : Exa Z h a C) (hM : as0 l Z y bytes maxL rt [] rm as' h Q) (W : Nat) (eT : T.heap = h) {nl : Nat} (hml : c.maxLocals = nl) {argsL rest stk : List Value} (hlen : ∀ sig, parseMethodDescriptor y.desc = some sig → argsL.length = sig.parameters.length) (hdg : decode c.code pc = .ok (.invokevirtual index, 3)) (k : ∀ v T' L, Stand p l e R s m args below meth c T' (locs ++ L) (cells + rm.cells) (slots + rm.slots) → Q v T'.heap L → ac0 p e below P (T'.setTop (mkF m (pc + 3) Ls (v.toList ++ rest)))) (hy : y.cls ≠ an8 ∧ y.cls ≠ ao8 := by decide) (hf : rm.frames + 1 ≤ R.frames := by decide) (hl : W + (maxL + 11) + rm.locals ≤ R.locals := by decide) (hc : cells + rm.cells ≤ R.cells := by decide) (hs : slots + rm.slots ≤ R.slots := by decide) (ha : (Value.ref a :: argsL).toArray = as' := by rfl) (hstack : stk = argsL.reverse ++ .ref a :: rest := by rfl) (hW : (rest.map fun v => v.category).sum ≤ W := by exact Nat.le_of_eq rfl) (hn' : Ls.size = nl := by rfl) : ac0 p e below P (T.setTop (mkF m (pc) Ls (stk))) :=
  do5 X hx hZ hown w1 w2 hz w5 w6 w3 w4 hy E hM W hf hl eT hc hs (g := mkF m pc Ls stk) rfl (by rw [hml]; exact hn') ha hlen hstack (by show 2 * 0 + _ ≤ _; rw [Nat.mul_zero, Nat.zero_add]; exact hW) hdg k
theorem bp1 (X : Stand p l e R s m args below meth c T locs cells slots) (hx : p.tables.exec = Jvm.exec) (hZ : Z.Warmed39 s.vm) {own C0 : String} {index : Nat} {y z : MethodName} {bytes : ByteArray} {maxL : Nat} {rt : Option FieldType} {rm : Room} {as' : Array Value} {Q : Option Value → Heap → List Loc → Prop}
    (hown : s.vm.findClass own = some m.cls) (w1 : (Jvm.Cond.methodLink own index y).before a0 Z = true) (w2 : (Jvm.Cond.instanceMethod y).before a0 Z = true) (hz : z.cls = y.cls) (w5 : (Jvm.Cond.selects C0 z z).before a0 Z = true) (w6 : (Jvm.Cond.superclass own y.cls).before a0 Z = true) (w3 : (Jvm.Cond.initialized y.cls).before a0 Z = true) (w4 : (Jvm.Cond.code y bytes maxL rt).before a0 Z = true) 
    {C : String} {a : Addr} (E : Exa Z h a C) (hM : as0 l Z y bytes maxL rt [] rm as' h Q) (W : Nat) (eT : T.heap = h) {nl : Nat} (hml : c.maxLocals = nl) {argsL rest stk : List Value} (hlen : ∀ sig, parseMethodDescriptor y.desc = some sig → argsL.length = sig.parameters.length) (hdg : decode c.code pc = .ok (.invokespecial index, 3)) (k : ∀ v T' L, Stand p l e R s m args below meth c T' (locs ++ L) (cells + rm.cells) (slots + rm.slots) → Q v T'.heap L → ac0 p e below P (T'.setTop (mkF m (pc + 3) Ls (v.toList ++ rest)))) (hy : y.cls ≠ an8 ∧ y.cls ≠ ao8 := by decide) (hn : y.name ≠ "<init>" := by decide) (hf : rm.frames + 1 ≤ R.frames := by decide) (hl : W + (maxL + 11) + rm.locals ≤ R.locals := by decide) (hc : cells + rm.cells ≤ R.cells := by decide) (hs : slots + rm.slots ≤ R.slots := by decide) (ha : (Value.ref a :: argsL).toArray = as' := by rfl) (hstack : stk = argsL.reverse ++ .ref a :: rest := by rfl) (hW : (rest.map fun v => v.category).sum ≤ W := by exact Nat.le_of_eq rfl) (hn' : Ls.size = nl := by rfl) : ac0 p e below P (T.setTop (mkF m (pc) Ls (stk))) :=
  dp5 X hx hZ hown w1 w2 hz w5 w6 hn w3 w4 hy E hM W hf hl eT hc hs (g := mkF m pc Ls stk) rfl (by rw [hml]; exact hn') ha hlen hstack (by show 2 * 0 + _ ≤ _; rw [Nat.mul_zero, Nat.zero_add]; exact hW) hdg k
end OwnZC
section
variable {pc : Nat} {Ls : Array Slot} {p : Program} {l : Launch} {e : Env} {R : Room} {s : State} {m : MethodId} {args : Array Value} {below : List Frame} {meth : Method} {c : Code} {T : State} {locs : List Loc} {cells slots : Nat} {Z : State} {a0 : Array Value} {h h' : Heap} {P : Outcome → State → Prop} {a b : Addr} {xs ys : List Int32}
theorem ah1 (X : Stand p l e R s m args below meth c T locs cells slots) (hx : p.tables.exec = Jvm.exec) (hZ : Z.Warmed39 s.vm) (eT : T.heap = h) (F : ag0 Z h a xs) {z : Int32} (hz : Int32.ofNat xs.length = z) {rest : List Value} (hd : decode c.code pc = .ok (.arraylength, 1))
    (k : ac0 p e below P (T.setTop (mkF m (pc + 1) Ls (.int z :: rest)))) : ac0 p e below P (T.setTop (mkF m pc Ls (.ref a :: rest))) := by subst hz; exact eh0 X hx hZ eT F (g := mkF m pc Ls (.ref a :: rest)) rfl rfl hd k
theorem al1 (X : Stand p l e R s m args below meth c T locs cells slots) (hx : p.tables.exec = Jvm.exec) (hZ : Z.Warmed39 s.vm) (eT : T.heap = h) (F : ag0 Z h a xs) {j v : Int32} {i : Nat} (hj : j.toInt = (i : Int)) (hv : xs[i]? = some v) {rest : List Value} (hd : decode c.code pc = .ok (.iaload, 1))
    (k : ac0 p e below P (T.setTop (mkF m (pc + 1) Ls (.int v :: rest)))) : ac0 p e below P (T.setTop (mkF m pc Ls (.int j :: .ref a :: rest))) := db0 X hx hZ eT F hj hv (g := mkF m pc Ls (.int j :: .ref a :: rest)) rfl rfl hd k
theorem ae2 (X : Stand p l e R s m args below meth c T locs cells slots) (hx : p.tables.exec = Jvm.exec) (hZ : Z.Warmed39 s.vm) (eT : T.heap = h) (F : ag0 Z h a xs) {j v : Int32} {i : Nat} (hj : j.toInt = (i : Int)) (hl : i < xs.length) {rest : List Value} (hd : decode c.code pc = .ok (.iastore, 1))
    (k : ∀ T' h', Stand p l e R s m args below meth c T' (locs ++ [⟨a, j.toNatClampNeg⟩]) cells slots → T'.heap = h' → Wr h h' a j.toNatClampNeg (.int v) → ag0 Z h' a (xs.set i v) → ac0 p e below P (T'.setTop (mkF m (pc + 1) Ls (rest)))) : ac0 p e below P (T.setTop (mkF m pc Ls (.int v :: .int j :: .ref a :: rest))) := ck6 X hx hZ eT F hj hl (g := mkF m pc Ls (.int v :: .int j :: .ref a :: rest)) rfl rfl hd k
theorem ab9 (X : Stand p l e R s m args below meth c T locs cells slots) (hx : p.tables.exec = Jvm.exec) (hZ : Z.Warmed39 s.vm) (w : (Jvm.Cond.arrayClass .int).before a0 Z = true) (eT : T.heap = h) {j : Int32} {n : Nat} (hj : j.toInt = (n : Int)) (cap : Nat) (hcap : n ≤ cap) (hb : cap * 8 ≤ 536870912) (hc : cells + 1 ≤ R.cells) (hl : slots + cap ≤ R.slots) {rest : List Value} (hd : decode c.code pc = .ok (.newarray .int, 2))
    (k : ∀ T' h', Stand p l e R s m args below meth c T' locs (cells + 1) (slots + cap) → T'.heap = h' → Ext h h' → ag0 Z h' h.size (List.replicate n 0) → ac0 p e below P (T'.setTop (mkF m (pc + 2) Ls (.ref h.size :: rest)))) : ac0 p e below P (T.setTop (mkF m pc Ls (.int j :: rest))) := ej0 X hx hZ w eT hj cap hcap hb hc hl (g := mkF m pc Ls (.int j :: rest)) rfl rfl hd k
end
section
variable {pc : Nat} {Ls : Array Slot} {p : Program} {l : Launch} {e : Env} {R : Room} {s : State} {m : MethodId} {args : Array Value} {below : List Frame} {meth : Method} {c : Code} {T : State} {locs : List Loc} {cells slots : Nat} {Z : State} {a0 : Array Value} {h h' : Heap} {P : Outcome → State → Prop} {a b : Addr} {n n1 n2 : Nat}
theorem ao3 (X : Stand p l e R s m args below meth c T locs cells slots) (hx : p.tables.exec = Jvm.exec) (hZ : Z.Warmed39 s.vm) (eT : T.heap = h) (F : ao0 Z h a n) {j : Int32} (hj : Int32.ofNat n = j) {rest : List Value} (hd : decode c.code pc = .ok (.arraylength, 1))
    (k : ac0 p e below P (T.setTop (mkF m (pc + 1) Ls (.int j :: rest)))) : ac0 p e below P (T.setTop (mkF m pc Ls (.ref a :: rest))) := dm5 X hx hZ eT F hj (g := mkF m pc Ls (.ref a :: rest)) rfl rfl hd k
theorem cg4 (X : Stand p l e R s m args below meth c T locs cells slots) (hx : p.tables.exec = Jvm.exec) (hZ : Z.Warmed39 s.vm) (w : (Jvm.Cond.arrayClass .byte).before a0 Z = true) (eT : T.heap = h) {j : Int32} {n : Nat} (hj : j.toInt = (n : Int)) (cap : Nat) (hcap : n ≤ cap) (hb : cap * 8 ≤ 536870912) (hc : cells + 1 ≤ R.cells) (hl : slots + cap ≤ R.slots) {rest : List Value} (hd : decode c.code pc = .ok (.newarray .byte, 2))
    (k : ∀ T' h', Stand p l e R s m args below meth c T' locs (cells + 1) (slots + cap) → T'.heap = h' → Ext h h' → ao0 Z h' h.size n → ac0 p e below P (T'.setTop (mkF m (pc + 2) Ls (.ref h.size :: rest)))) : ac0 p e below P (T.setTop (mkF m pc Ls (.int j :: rest))) := el0 X hx hZ w eT hj cap hcap hb hc hl (g := mkF m pc Ls (.int j :: rest)) rfl rfl hd k
end
theorem dq5 : decode jdk_29_method_69_code 0 = .ok (.iload_n 0, 1) := by decide +kernel
theorem dr5 : decode jdk_29_method_69_code 1 = .ok (.iload_n 1, 1) := by decide +kernel
theorem ck5 : decode jdk_29_method_69_code 2 = .ok (.if_icmp .gt 7, 3) := by decide +kernel
theorem ds5 : decode jdk_29_method_69_code 9 = .ok (.iload_n 1, 1) := by decide +kernel
theorem c5 : decode jdk_29_method_69_code 10 = .ok (.ireturn, 1) := by decide +kernel
theorem dt5 : decode jdk_29_method_69_code 5 = .ok (.iload_n 0, 1) := by decide +kernel
theorem du5 : decode jdk_29_method_69_code 6 = .ok (.goto 4, 3) := by decide +kernel
theorem dv5 (m : MethodId) (p0 : Int32) (p1 : Int32) : entryFrame m #[(.int p0), (.int p1)] 2 = mkF m 0 #[.val (.int p0), .val (.int p1)] [] := by first | (simp [entryFrame, mkF, argsToLocals, Value.category]; done) | rfl
def as2 (p0 : Int32) (p1 : Int32) : Int32 := (if p1 < p0 then p1 else p0)
set_option maxRecDepth 65536 in
set_option maxHeartbeats 40000000 in
theorem af6 (l : Launch) (Z : State) (a0 : Array Value) (hw : ∀ d ∈ tables_1, d.before a0 Z = true) (ws : List Jvm.Cond) (p0 : Int32) (p1 : Int32)  (h0 : Heap) (n0 : Nat) (Z0 : n0 ≤ h0.size)  :
    as0 l Z (⟨"java/lang/Math", "min", "(II)I"⟩ : MethodName) jdk_29_method_69_code 2 (some .int) ws ({ frames := 0, cells := 0, slots := 0, locals := 0 } : Room) #[(.int p0), (.int p1)] h0 (fun (v : Option Value) (h : Heap) (L : List Loc) => v = some (.int (as2 p0 p1)) ∧ Fr n0 L ∧ h = h0) := by
  refine aq0 (Jvm.Free.JP.mathPlain rfl (by decide +kernel)) ?_
  intro p e s m below meth c s₁ P hx hby hml hrt hlk hown hnm hZ X0 e0 hP
  have N0 := Fr.nil n0
  have K0 := Keep.refl h0 []
  have hml' : c.maxLocals = 2 := hml
  refine ar0 (dv5 m p0 p1) ?_
  show ac0 p e below P (s₁.setTop (mkF m 0 #[.val (.int p0), .val (.int p1)] []))
  refine ae0 X0 hx (hb hby dq5) rfl ?_
  refine ae0 X0 hx (hb hby dr5) rfl ?_
  by_cases hc1 : p1 < p0
  · refine au0 X0 hx (pc' := 9) (hb hby ck5) (tlt hc1).2.2.1 ?_
    refine ae0 X0 hx (hb hby ds5) rfl ?_
    refine aq4 X0 hx hlk hP hrt (hb hby c5) (by decide) (by decide) ⟨congrArg (fun z => some (Value.int z)) ?_, N0, e0⟩
    exact (show as2 p0 p1 = p1 from (if_pos hc1).trans (rfl)).symm
  · refine av0 X0 hx (hb hby ck5) (flt hc1).2.2.1 ?_
    refine ae0 X0 hx (hb hby dt5) rfl ?_
    refine am1 X0 hx (pc' := 10) (hb hby du5) ?_
    refine aq4 X0 hx hlk hP hrt (hb hby c5) (by decide) (by decide) ⟨congrArg (fun z => some (Value.int z)) ?_, N0, e0⟩
    exact (show as2 p0 p1 = p0 from (if_neg hc1).trans (rfl)).symm
theorem dw5 : decode jdk_29_method_65_code 0 = .ok (.iload_n 0, 1) := by decide +kernel
theorem dx5 : decode jdk_29_method_65_code 1 = .ok (.iload_n 1, 1) := by decide +kernel
theorem cl5 : decode jdk_29_method_65_code 2 = .ok (.if_icmp .lt 7, 3) := by decide +kernel
theorem dy5 : decode jdk_29_method_65_code 9 = .ok (.iload_n 1, 1) := by decide +kernel
theorem ca5 : decode jdk_29_method_65_code 10 = .ok (.ireturn, 1) := by decide +kernel
theorem dz5 : decode jdk_29_method_65_code 5 = .ok (.iload_n 0, 1) := by decide +kernel
theorem d6 : decode jdk_29_method_65_code 6 = .ok (.goto 4, 3) := by decide +kernel
theorem da6 (m : MethodId) (p0 : Int32) (p1 : Int32) : entryFrame m #[(.int p0), (.int p1)] 2 = mkF m 0 #[.val (.int p0), .val (.int p1)] [] := by first | (simp [entryFrame, mkF, argsToLocals, Value.category]; done) | rfl
def ar9 (p0 : Int32) (p1 : Int32) : Int32 := (if p0 < p1 then p1 else p0)
set_option maxRecDepth 65536 in
set_option maxHeartbeats 40000000 in
theorem cr4 (l : Launch) (Z : State) (a0 : Array Value) (hw : ∀ d ∈ tables_1, d.before a0 Z = true) (ws : List Jvm.Cond) (p0 : Int32) (p1 : Int32)  (h0 : Heap) (n0 : Nat) (Z0 : n0 ≤ h0.size)  :
    as0 l Z (⟨"java/lang/Math", "max", "(II)I"⟩ : MethodName) jdk_29_method_65_code 2 (some .int) ws ({ frames := 0, cells := 0, slots := 0, locals := 0 } : Room) #[(.int p0), (.int p1)] h0 (fun (v : Option Value) (h : Heap) (L : List Loc) => v = some (.int (ar9 p0 p1)) ∧ Fr n0 L ∧ h = h0) := by
  refine aq0 (Jvm.Free.JP.mathPlain rfl (by decide +kernel)) ?_
  intro p e s m below meth c s₁ P hx hby hml hrt hlk hown hnm hZ X0 e0 hP
  have N0 := Fr.nil n0
  have K0 := Keep.refl h0 []
  have hml' : c.maxLocals = 2 := hml
  refine ar0 (da6 m p0 p1) ?_
  show ac0 p e below P (s₁.setTop (mkF m 0 #[.val (.int p0), .val (.int p1)] []))
  refine ae0 X0 hx (hb hby dw5) rfl ?_
  refine ae0 X0 hx (hb hby dx5) rfl ?_
  by_cases hc1 : p0 < p1
  · refine au0 X0 hx (pc' := 9) (hb hby cl5) (tlt hc1).1 ?_
    refine ae0 X0 hx (hb hby dy5) rfl ?_
    refine aq4 X0 hx hlk hP hrt (hb hby ca5) (by decide) (by decide) ⟨congrArg (fun z => some (Value.int z)) ?_, N0, e0⟩
    exact (show ar9 p0 p1 = p1 from (if_pos hc1).trans (rfl)).symm
  · refine av0 X0 hx (hb hby cl5) (flt hc1).1 ?_
    refine ae0 X0 hx (hb hby dz5) rfl ?_
    refine am1 X0 hx (pc' := 10) (hb hby d6) ?_
    refine aq4 X0 hx hlk hP hrt (hb hby ca5) (by decide) (by decide) ⟨congrArg (fun z => some (Value.int z)) ?_, N0, e0⟩
    exact (show ar9 p0 p1 = p0 from (if_neg hc1).trans (rfl)).symm
theorem db6 : decode jdk_68_method_2_code 0 = .ok (.aload_n 0, 1) := by decide +kernel
theorem dc6 : decode jdk_68_method_2_code 1 = .ok (.invokespecial 3, 3) := by decide +kernel
theorem dd6 : decode jdk_68_method_2_code 4 = .ok (.getstatic 18, 3) := by decide +kernel
theorem de6 : decode jdk_68_method_2_code 7 = .ok (.ifCond .eq 18, 3) := by decide +kernel
theorem de0 : decode jdk_68_method_2_code 10 = .ok (.aload_n 0, 1) := by decide +kernel
theorem df0 : decode jdk_68_method_2_code 11 = .ok (.iload_n 1, 1) := by decide +kernel
theorem dg0 : decode jdk_68_method_2_code 12 = .ok (.newarray .byte, 2) := by decide +kernel
theorem dh0 : decode jdk_68_method_2_code 14 = .ok (.putfield 15, 3) := by decide +kernel
theorem di0 : decode jdk_68_method_2_code 17 = .ok (.aload_n 0, 1) := by decide +kernel
theorem dj0 : decode jdk_68_method_2_code 18 = .ok (.iconst 0, 1) := by decide +kernel
theorem dk0 : decode jdk_68_method_2_code 19 = .ok (.putfield 22, 3) := by decide +kernel
theorem dl0 : decode jdk_68_method_2_code 22 = .ok (.goto 16, 3) := by decide +kernel
theorem dm0 : decode jdk_68_method_2_code 38 = .ok (.return_, 1) := by decide +kernel
theorem df6 (m : MethodId) (o0 : Addr) : entryFrame m #[(.ref o0), (.int (16 : Int32))] 2 = mkF m 0 #[.val (.ref o0), .val (.int (16 : Int32))] [] := by first | (simp [entryFrame, mkF, argsToLocals, Value.category]; done) | rfl
theorem ap0 : plainName z_s0 = true := by first | (simp [plainName, overriddenIn]; done) | decide +kernel
set_option maxRecDepth 65536 in
set_option maxHeartbeats 40000000 in
theorem en0 (l : Launch) (Z : State) (a0 : Array Value) (hw : ∀ d ∈ tables_1, d.before a0 Z = true) (ws : List Jvm.Cond) (o0 : Addr) (aa0 : Int32) (h0 : Heap) (n0 : Nat) (Z0 : n0 ≤ h0.size) (E_o0 : Exa Z h0 o0 z_s2) (al0 : Fld Z h0 o0 z_s0 "value" "[B" .null) (ai0 : Fld Z h0 o0 z_s0 "coder" "B" (.int (0 : Int32))) (ay0 : Fld Z h0 o0 z_s0 "count" "I" (.int (0 : Int32))) (af0 : Sta Z h0 z_s1 z_s8 "Z" (.int aa0)) (ab1 : n0 ≤ o0) (hnz : ¬ (aa0 = (0 : Int32))) :
    as0 l Z (⟨z_s0, "<init>", "(I)V"⟩ : MethodName) jdk_68_method_2_code 2 none ws ({ frames := 1, cells := 1, slots := 16, locals := 12 } : Room) #[(.ref o0), (.int (16 : Int32))] h0 (fun (v : Option Value) (h : Heap) (L : List Loc) => ∃ (b3 : Addr), v = none ∧ Fr n0 L ∧ Keep h0 h [o0] ∧ h0.size ≤ b3 ∧ n0 ≤ b3 ∧ Exa Z h o0 z_s2 ∧ Fld Z h o0 z_s0 "value" "[B" (.ref b3) ∧ Fld Z h o0 z_s0 "coder" "B" (.int (nar .byte (0 : Int32))) ∧ Fld Z h o0 z_s0 "count" "I" (.int (0 : Int32)) ∧ ao0 Z h b3 16) := by
  refine aq0 (plainFor_of_name ap0) ?_
  intro p e s m below meth c s₁ P hx hby hml hrt hlk hown hnm hZ X0 e0 hP
  have N0 := Fr.nil n0
  have K0 := Keep.refl h0 [o0]
  have hml' : c.maxLocals = 2 := hml
  refine ar0 (df6 m o0) ?_
  show ac0 p e below P (s₁.setTop (mkF m 0 #[.val (.ref o0), .val (.int (16 : Int32))] []))
  refine ab0 X0 hx (hb hby db6) rfl rfl ?_
  obtain ⟨T1, X1, e1, st1⟩ := initO X0 hx hZ hown (z_w hw 38 rfl) (z_w hw 13 rfl) (z_w hw 14 rfl) e0 (g := (mkF m 1 #[.val (.ref o0), .val (.int (16 : Int32))] [(.ref o0)])) rfl (by rw [hml']; rfl) rfl (hb hby dc6) (by decide) (W := 0) (by show 2 * 0 + _ ≤ _; exact Nat.le_of_eq rfl) (by decide)
  refine ae1 (fun _ => st1 _) ?_
  show ac0 p e below P (T1.setTop (mkF m 4 #[.val (.ref o0), .val (.int (16 : Int32))] []))
  refine cz4 X1 hx hZ hown (host := "") (Or.inl (z_w hw 39 rfl)) Via.refl e1 af0 (hb hby dd6) (fun T2 X2 e2 => ?_)
  refine aa3 X2 hx (hb hby de6) ((if0 _ _).trans (feq hnz).1) ?_
  refine ab0 X2 hx (hb hby de0) rfl rfl ?_
  refine ae0 X2 hx (hb hby df0) rfl ?_
  refine cg4 X2 hx hZ (z_w hw 18 rfl) e2 (j := (16 : Int32)) (n := 16) (by decide) 16 (by decide) (by decide) (by decide) (by decide) (hb hby dg0) (fun T3 h3 X3 e3 E3 B3 => ?_)
  obtain ⟨b3, g3⟩ : ∃ z, z = h0.size := ⟨_, rfl⟩
  rw [← g3] at B3 ⊢
  have ne4 := z_nb E_o0.lt g3
  have en2 : n0 ≤ b3 := Nat.le_trans (Nat.le_trans Z0 K0.1) (Nat.le_of_eq g3.symm)
  have ea3 : h0.size ≤ b3 := Nat.le_trans K0.1 (Nat.le_of_eq g3.symm)
  have K3 := Keep.ext K0 E3
  have A3 : ao0 Z h3 b3 16 := B3
  have G5 := (al0.ext E3)
  have G6 := (E_o0.ext E3)
  refine aj7 X3 hx hZ hown (host := "") (Or.inl (z_w hw 40 rfl)) Via.refl e3 G5 G6 (Or.inl (z_w hw 41 rfl)) (z_w hw 27 rfl) (ty := (.array .byte)) (by decide) (hb hby dh0) (fun T7 h7 X7 e7 W7 => ?_)
  have N7 := Fr.snoc X7 N0 ab1
  have K7 := Keep.wr K3 W7 (Or.inl (List.mem_of_getElem? (i := 0) rfl))
  have F7 := G5.same W7
  refine ab0 X7 hx (hb hby di0) rfl rfl ?_
  refine am0 X7 hx (hb hby dj0) (z := (0 : Int32)) rfl ?_
  have G8 := ((ai0.ext E3).other W7 (Or.inr (slot_ne (Or.inl (z_w hw 43 rfl)) (Or.inl (z_w hw 41 rfl)) (by decide) (t := .byte) (t' := (.array .byte)) (by decide) (by decide))))
  have G9 := (G6.wr W7)
  obtain ⟨T10, h10, X10, e10, W10, st10⟩ := putFN X7 hx hZ hown (z_w hw 42 rfl) Via.refl e7 G8 G9 (Or.inl (z_w hw 43 rfl)) (z_w hw 27 rfl) (ty := .byte) (v' := (.int (nar .byte (0 : Int32)))) (by decide) rfl (fits_nar_byte _) (g := (mkF m 19 #[.val (.ref o0), .val (.int (16 : Int32))] [(.int (0 : Int32)), (.ref o0)])) rfl rfl (hb hby dk0)
  have N10 := Fr.snoc X10 N7 ab1
  have K10 := Keep.wr K7 W10 (Or.inl (List.mem_of_getElem? (i := 0) rfl))
  have F10 := G8.same W10
  refine ae1 (fun _ => st10 _) ?_
  show ac0 p e below P (T10.setTop (mkF m 22 #[.val (.ref o0), .val (.int (16 : Int32))] []))
  refine am1 X10 hx (pc' := 38) (hb hby dl0) ?_
  have G11 := (G9.wr W10)
  have G12 := (F7.other W10 (Or.inr (slot_ne (Or.inl (z_w hw 41 rfl)) (Or.inl (z_w hw 43 rfl)) (by decide) (t := (.array .byte)) (t' := .byte) (by decide) (by decide))))
  have G13 := (((ay0.ext E3).other W7 (Or.inr (slot_ne (Or.inl (z_w hw 68 rfl)) (Or.inl (z_w hw 41 rfl)) (by decide) (t := .int) (t' := (.array .byte)) (by decide) (by decide)))).other W10 (Or.inr (slot_ne (Or.inl (z_w hw 68 rfl)) (Or.inl (z_w hw 43 rfl)) (by decide) (t := .int) (t' := .byte) (by decide) (by decide))))
  have G14 := ((A3.other W7 ne4.symm).other W10 ne4.symm)
  have hfin : ((fun (v : Option Value) (h : Heap) (L : List Loc) => ∃ (b3 : Addr), v = none ∧ Fr n0 L ∧ Keep h0 h [o0] ∧ h0.size ≤ b3 ∧ n0 ≤ b3 ∧ Exa Z h o0 z_s2 ∧ Fld Z h o0 z_s0 "value" "[B" (.ref b3) ∧ Fld Z h o0 z_s0 "coder" "B" (.int (nar .byte (0 : Int32))) ∧ Fld Z h o0 z_s0 "count" "I" (.int (0 : Int32)) ∧ ao0 Z h b3 16)) none h10 _ := ⟨b3, rfl, N10, K10, ea3, en2, G11, G12, F10, G13, G14⟩
  refine at1 X10 hx hlk hP hrt (hb hby dm0) (by decide) (by decide) ?_
  rw [e10]; exact hfin
theorem dg6 : decode jdk_67_method_1_code 0 = .ok (.aload_n 0, 1) := by decide +kernel
theorem dh6 : decode jdk_67_method_1_code 1 = .ok (.bipush 16, 2) := by decide +kernel
theorem di6 : decode jdk_67_method_1_code 3 = .ok (.invokespecial 1, 3) := by decide +kernel
theorem am7 : parseMethodDescriptor "(I)V" = some ⟨[.int], none⟩ := by decide +kernel
theorem dj6 : decode jdk_67_method_1_code 6 = .ok (.return_, 1) := by decide +kernel
theorem dk6 (m : MethodId) (o0 : Addr) : entryFrame m #[(.ref o0)] 1 = mkF m 0 #[.val (.ref o0)] [] := by first | (simp [entryFrame, mkF, argsToLocals, Value.category]; done) | rfl
theorem ar1 : plainName z_s2 = true := by first | (simp [plainName, overriddenIn]; done) | decide +kernel
set_option maxRecDepth 65536 in
set_option maxHeartbeats 40000000 in
theorem bn7 (l : Launch) (Z : State) (a0 : Array Value) (hw : ∀ d ∈ tables_1, d.before a0 Z = true) (ws : List Jvm.Cond) (o0 : Addr) (aa0 : Int32) (h0 : Heap) (n0 : Nat) (Z0 : n0 ≤ h0.size) (E_o0 : Exa Z h0 o0 z_s2) (al0 : Fld Z h0 o0 z_s0 "value" "[B" .null) (ai0 : Fld Z h0 o0 z_s0 "coder" "B" (.int (0 : Int32))) (ay0 : Fld Z h0 o0 z_s0 "count" "I" (.int (0 : Int32))) (af0 : Sta Z h0 z_s1 z_s8 "Z" (.int aa0)) (ab1 : n0 ≤ o0) (hnz : ¬ (aa0 = (0 : Int32))) :
    as0 l Z (⟨z_s2, "<init>", "()V"⟩ : MethodName) jdk_67_method_1_code 1 none ws ({ frames := 2, cells := 1, slots := 16, locals := 25 } : Room) #[(.ref o0)] h0 (fun (v : Option Value) (h : Heap) (L : List Loc) => ∃ (b3_1 : Addr), v = none ∧ Fr n0 L ∧ Keep h0 h [o0] ∧ h0.size ≤ b3_1 ∧ n0 ≤ b3_1 ∧ Exa Z h o0 z_s2 ∧ Fld Z h o0 z_s0 "value" "[B" (.ref b3_1) ∧ Fld Z h o0 z_s0 "coder" "B" (.int (nar .byte (0 : Int32))) ∧ Fld Z h o0 z_s0 "count" "I" (.int (0 : Int32)) ∧ ao0 Z h b3_1 16) := by
  refine aq0 (plainFor_of_name ar1) ?_
  intro p e s m below meth c s₁ P hx hby hml hrt hlk hown hnm hZ X0 e0 hP
  have N0 := Fr.nil n0
  have K0 := Keep.refl h0 [o0]
  have hml' : c.maxLocals = 1 := hml
  refine ar0 (dk6 m o0) ?_
  show ac0 p e below P (s₁.setTop (mkF m 0 #[.val (.ref o0)] []))
  refine ab0 X0 hx (hb hby dg6) rfl rfl ?_
  refine ak8 X0 hx (hb hby dh6) (z := (16 : Int32)) rfl ?_
  refine ai9 X0 hx hZ (y := (⟨z_s0, "<init>", "(I)V"⟩ : MethodName)) hown (z_w hw 32 rfl) (z_w hw 33 rfl) (z_w hw 36 rfl) (z_w hw 37 rfl) (en0 l Z a0 hw [] o0 aa0 h0 n0 (Nat.le_trans Z0 K0.1) E_o0 al0 ai0 ay0 af0 ab1 hnz) 0 e0 hml' (a := o0) (argsL := [(.int (16 : Int32))]) (rest := []) (lenOf am7 rfl) (hb hby di6) (fun r1 T1 L1 X1 hQ1 => ?_)
  obtain ⟨b3_1, rfl, Nq1, Kq1, cs5, eo0, f0_1, f1_1, f2_1, f3_1, f4_1⟩ := hQ1
  have N1 := Fr.app N0 Nq1
  have ne2 := z_nc E_o0.lt cs5
  have eb2 := Nat.le_trans K0.1 cs5
  have K1 := Keep.trans K0 Kq1 (allS (Or.inl (List.mem_of_getElem? (i := 0) rfl)) all0)
  show ac0 p e below P (T1.setTop (mkF m 6 #[.val (.ref o0)] []))
  have hfin : ((fun (v : Option Value) (h : Heap) (L : List Loc) => ∃ (b3_1 : Addr), v = none ∧ Fr n0 L ∧ Keep h0 h [o0] ∧ h0.size ≤ b3_1 ∧ n0 ≤ b3_1 ∧ Exa Z h o0 z_s2 ∧ Fld Z h o0 z_s0 "value" "[B" (.ref b3_1) ∧ Fld Z h o0 z_s0 "coder" "B" (.int (nar .byte (0 : Int32))) ∧ Fld Z h o0 z_s0 "count" "I" (.int (0 : Int32)) ∧ ao0 Z h b3_1 16)) none T1.heap _ := ⟨b3_1, rfl, N1, K1, eb2, eo0, f0_1, f1_1, f2_1, f3_1, f4_1⟩
  refine at1 X1 hx hlk hP hrt (hb hby dj6) (by decide) (by decide) ?_
  exact hfin
theorem dl6 : decode jdk_42_method_152_code 0 = .ok (.getstatic 38, 3) := by decide +kernel
theorem dm6 : decode jdk_42_method_152_code 3 = .ok (.ifCond .eq 10, 3) := by decide +kernel
theorem dn6 : decode jdk_42_method_152_code 6 = .ok (.aload_n 0, 1) := by decide +kernel
theorem do6 : decode jdk_42_method_152_code 7 = .ok (.getfield 15, 3) := by decide +kernel
theorem dn0 : decode jdk_42_method_152_code 10 = .ok (.goto 4, 3) := by decide +kernel
theorem do0 : decode jdk_42_method_152_code 14 = .ok (.ireturn, 1) := by decide +kernel
theorem dp6 (m : MethodId) (o0 : Addr) : entryFrame m #[(.ref o0)] 1 = mkF m 0 #[.val (.ref o0)] [] := by first | (simp [entryFrame, mkF, argsToLocals, Value.category]; done) | rfl
theorem au1 : plainName z_s1 = true := by first | (simp [plainName, overriddenIn]; done) | decide +kernel
set_option maxRecDepth 65536 in
set_option maxHeartbeats 40000000 in
theorem ac9 (l : Launch) (Z : State) (a0 : Array Value) (hw : ∀ d ∈ tables_1, d.before a0 Z = true) (ws : List Jvm.Cond) (o0 : Addr) (aa0 : Int32) (h0 : Heap) (n0 : Nat) (Z0 : n0 ≤ h0.size) (ai0 : Fld Z h0 o0 z_s1 "coder" "B" (.int (0 : Int32))) (af0 : Sta Z h0 z_s1 z_s8 "Z" (.int aa0)) (hnz : ¬ (aa0 = (0 : Int32))) :
    as0 l Z (⟨z_s1, "coder", "()B"⟩ : MethodName) jdk_42_method_152_code 1 (some .byte) ws ({ frames := 0, cells := 0, slots := 0, locals := 0 } : Room) #[(.ref o0)] h0 (fun (v : Option Value) (h : Heap) (L : List Loc) => v = some (.int (0 : Int32)) ∧ Fr n0 L ∧ h = h0) := by
  refine aq0 (plainFor_of_name au1) ?_
  intro p e s m below meth c s₁ P hx hby hml hrt hlk hown hnm hZ X0 e0 hP
  have N0 := Fr.nil n0
  have K0 := Keep.refl h0 []
  have hml' : c.maxLocals = 1 := hml
  refine ar0 (dp6 m o0) ?_
  show ac0 p e below P (s₁.setTop (mkF m 0 #[.val (.ref o0)] []))
  refine cz4 X0 hx hZ hown (host := "") (Or.inl (z_w hw 65 rfl)) Via.refl e0 af0 (hb hby dl6) (fun T1 X1 e1 => ?_)
  refine aa3 X1 hx (hb hby dm6) ((if0 _ _).trans (feq hnz).1) ?_
  refine ab0 X1 hx (hb hby dn6) rfl rfl ?_
  refine ak1 X1 hx hZ hown (host := "") (Or.inl (z_w hw 66 rfl)) Via.refl e1 ai0 (hb hby do6) (fun T2 X2 e2 => ?_)
  refine am1 X2 hx (pc' := 14) (hb hby dn0) ?_
  exact bx6 X2 hx hlk hP (t := .byte) (by simp) hrt (hb hby do0) (by decide) (by decide) ⟨rfl, N0, e2⟩
theorem ba8 : decode jdk_42_method_54_code 0 = .ok (.aload_n 0, 1) := by decide +kernel
theorem bb8 : decode jdk_42_method_54_code 1 = .ok (.getfield 9, 3) := by decide +kernel
theorem bc8 : decode jdk_42_method_54_code 4 = .ok (.arraylength, 1) := by decide +kernel
theorem bd8 : decode jdk_42_method_54_code 5 = .ok (.aload_n 0, 1) := by decide +kernel
theorem be8 : decode jdk_42_method_54_code 6 = .ok (.invokevirtual 335, 3) := by decide +kernel
theorem af5 : parseMethodDescriptor "()B" = some ⟨[], some .byte⟩ := by decide +kernel
theorem bf8 : decode jdk_42_method_54_code 9 = .ok (.ishr, 1) := by decide +kernel
theorem bk7 : decode jdk_42_method_54_code 10 = .ok (.ireturn, 1) := by decide +kernel
theorem dp0 (m : MethodId) (o0 : Addr) : entryFrame m #[(.ref o0)] 1 = mkF m 0 #[.val (.ref o0)] [] := by first | (simp [entryFrame, mkF, argsToLocals, Value.category]; done) | rfl
set_option maxRecDepth 65536 in
set_option maxHeartbeats 40000000 in
theorem dq6 (l : Launch) (Z : State) (a0 : Array Value) (hw : ∀ d ∈ tables_1, d.before a0 Z = true) (ws : List Jvm.Cond) (o0 : Addr) (ad0 : Addr) (aa0 : Int32) (h0 : Heap) (n0 : Nat) (Z0 : n0 ≤ h0.size) (E_o0 : Exa Z h0 o0 z_s1) (al0 : Fld Z h0 o0 z_s1 "value" "[B" (.ref ad0)) (ai0 : Fld Z h0 o0 z_s1 "coder" "B" (.int (0 : Int32))) (af0 : Sta Z h0 z_s1 z_s8 "Z" (.int aa0)) (aj0 : ao0 Z h0 ad0 5) (hnz : ¬ (aa0 = (0 : Int32))) :
    as0 l Z (⟨z_s1, "length", "()I"⟩ : MethodName) jdk_42_method_54_code 1 (some .int) ws ({ frames := 1, cells := 0, slots := 0, locals := 13 } : Room) #[(.ref o0)] h0 (fun (v : Option Value) (h : Heap) (L : List Loc) => v = some (.int (5 : Int32)) ∧ Fr n0 L ∧ h = h0) := by
  refine aq0 (plainFor_of_name au1) ?_
  intro p e s m below meth c s₁ P hx hby hml hrt hlk hown hnm hZ X0 e0 hP
  have N0 := Fr.nil n0
  have K0 := Keep.refl h0 []
  have hml' : c.maxLocals = 1 := hml
  refine ar0 (dp0 m o0) ?_
  show ac0 p e below P (s₁.setTop (mkF m 0 #[.val (.ref o0)] []))
  refine ab0 X0 hx (hb hby ba8) rfl rfl ?_
  refine ak1 X0 hx hZ hown (host := "") (Or.inl (z_w hw 59 rfl)) Via.refl e0 al0 (hb hby bb8) (fun T1 X1 e1 => ?_)
  refine ao3 X1 hx hZ e1 aj0 (j := (5 : Int32)) (by decide) (hb hby bc8) ?_
  refine ab0 X1 hx (hb hby bd8) rfl rfl ?_
  refine ag2 X1 hx hZ (y := (⟨z_s1, "coder", "()B"⟩ : MethodName)) (z := (⟨z_s1, "coder", "()B"⟩ : MethodName)) hown (z_w hw 60 rfl) (z_w hw 61 rfl) (notFace_of_selects (args := #[]) (mvT hZ (z_w hw 63 rfl))) (z_w hw 63 rfl) (z_w hw 62 rfl) (z_w hw 16 rfl) (z_w hw 64 rfl) E_o0 (ac9 l Z a0 hw [] o0 aa0 h0 n0 (Nat.le_trans Z0 K0.1) ai0 af0 hnz) 1 e1 hml' (argsL := []) (rest := [(.int (5 : Int32))]) (lenOf af5 rfl) (hb hby be8) (fun r2 T2 L2 X2 hQ2 => ?_)
  obtain ⟨rfl, Nq2, eq2⟩ := hQ2
  have N2 := Fr.app N0 Nq2
  show ac0 p e below P (T2.setTop (mkF m 9 #[.val (.ref o0)] [(.int (0 : Int32)), (.int (5 : Int32))]))
  refine al8 X2 hx (hb hby bf8) (z := ((5 : Int32) >>> ((0 : Int32) &&& 31))) rfl ?_
  rw [show ((5 : Int32) >>> ((0 : Int32) &&& 31)) = (5 : Int32) from by decide]
  show ac0 p e below P (T2.setTop (mkF m 10 #[.val (.ref o0)] [(.int (5 : Int32))]))
  exact aq4 X2 hx hlk hP hrt (hb hby bk7) (by decide) (by decide) ⟨rfl, N2, eq2⟩
theorem dq0 (m : MethodId) (o0 : Addr) : entryFrame m #[(.ref o0)] 1 = mkF m 0 #[.val (.ref o0)] [] := by first | (simp [entryFrame, mkF, argsToLocals, Value.category]; done) | rfl
set_option maxRecDepth 65536 in
set_option maxHeartbeats 40000000 in
theorem dr6 (l : Launch) (Z : State) (a0 : Array Value) (hw : ∀ d ∈ tables_1, d.before a0 Z = true) (ws : List Jvm.Cond) (o0 : Addr) (ad0 : Addr) (aa0 : Int32) (h0 : Heap) (n0 : Nat) (Z0 : n0 ≤ h0.size) (E_o0 : Exa Z h0 o0 z_s1) (al0 : Fld Z h0 o0 z_s1 "value" "[B" (.ref ad0)) (ai0 : Fld Z h0 o0 z_s1 "coder" "B" (.int (0 : Int32))) (af0 : Sta Z h0 z_s1 z_s8 "Z" (.int aa0)) (aj0 : ao0 Z h0 ad0 6) (hnz : ¬ (aa0 = (0 : Int32))) :
    as0 l Z (⟨z_s1, "length", "()I"⟩ : MethodName) jdk_42_method_54_code 1 (some .int) ws ({ frames := 1, cells := 0, slots := 0, locals := 13 } : Room) #[(.ref o0)] h0 (fun (v : Option Value) (h : Heap) (L : List Loc) => v = some (.int (6 : Int32)) ∧ Fr n0 L ∧ h = h0) := by
  refine aq0 (plainFor_of_name au1) ?_
  intro p e s m below meth c s₁ P hx hby hml hrt hlk hown hnm hZ X0 e0 hP
  have N0 := Fr.nil n0
  have K0 := Keep.refl h0 []
  have hml' : c.maxLocals = 1 := hml
  refine ar0 (dq0 m o0) ?_
  show ac0 p e below P (s₁.setTop (mkF m 0 #[.val (.ref o0)] []))
  refine ab0 X0 hx (hb hby ba8) rfl rfl ?_
  refine ak1 X0 hx hZ hown (host := "") (Or.inl (z_w hw 59 rfl)) Via.refl e0 al0 (hb hby bb8) (fun T1 X1 e1 => ?_)
  refine ao3 X1 hx hZ e1 aj0 (j := (6 : Int32)) (by decide) (hb hby bc8) ?_
  refine ab0 X1 hx (hb hby bd8) rfl rfl ?_
  refine ag2 X1 hx hZ (y := (⟨z_s1, "coder", "()B"⟩ : MethodName)) (z := (⟨z_s1, "coder", "()B"⟩ : MethodName)) hown (z_w hw 60 rfl) (z_w hw 61 rfl) (notFace_of_selects (args := #[]) (mvT hZ (z_w hw 63 rfl))) (z_w hw 63 rfl) (z_w hw 62 rfl) (z_w hw 16 rfl) (z_w hw 64 rfl) E_o0 (ac9 l Z a0 hw [] o0 aa0 h0 n0 (Nat.le_trans Z0 K0.1) ai0 af0 hnz) 1 e1 hml' (argsL := []) (rest := [(.int (6 : Int32))]) (lenOf af5 rfl) (hb hby be8) (fun r2 T2 L2 X2 hQ2 => ?_)
  obtain ⟨rfl, Nq2, eq2⟩ := hQ2
  have N2 := Fr.app N0 Nq2
  show ac0 p e below P (T2.setTop (mkF m 9 #[.val (.ref o0)] [(.int (0 : Int32)), (.int (6 : Int32))]))
  refine al8 X2 hx (hb hby bf8) (z := ((6 : Int32) >>> ((0 : Int32) &&& 31))) rfl ?_
  rw [show ((6 : Int32) >>> ((0 : Int32) &&& 31)) = (6 : Int32) from by decide]
  show ac0 p e below P (T2.setTop (mkF m 10 #[.val (.ref o0)] [(.int (6 : Int32))]))
  exact aq4 X2 hx hlk hP hrt (hb hby bk7) (by decide) (by decide) ⟨rfl, N2, eq2⟩
theorem dr0 (m : MethodId) (o0 : Addr) : entryFrame m #[(.ref o0)] 1 = mkF m 0 #[.val (.ref o0)] [] := by first | (simp [entryFrame, mkF, argsToLocals, Value.category]; done) | rfl
set_option maxRecDepth 65536 in
set_option maxHeartbeats 40000000 in
theorem ds6 (l : Launch) (Z : State) (a0 : Array Value) (hw : ∀ d ∈ tables_1, d.before a0 Z = true) (ws : List Jvm.Cond) (o0 : Addr) (ad0 : Addr) (aa0 : Int32) (h0 : Heap) (n0 : Nat) (Z0 : n0 ≤ h0.size) (E_o0 : Exa Z h0 o0 z_s1) (al0 : Fld Z h0 o0 z_s1 "value" "[B" (.ref ad0)) (ai0 : Fld Z h0 o0 z_s1 "coder" "B" (.int (0 : Int32))) (af0 : Sta Z h0 z_s1 z_s8 "Z" (.int aa0)) (aj0 : ao0 Z h0 ad0 7) (hnz : ¬ (aa0 = (0 : Int32))) :
    as0 l Z (⟨z_s1, "length", "()I"⟩ : MethodName) jdk_42_method_54_code 1 (some .int) ws ({ frames := 1, cells := 0, slots := 0, locals := 13 } : Room) #[(.ref o0)] h0 (fun (v : Option Value) (h : Heap) (L : List Loc) => v = some (.int (7 : Int32)) ∧ Fr n0 L ∧ h = h0) := by
  refine aq0 (plainFor_of_name au1) ?_
  intro p e s m below meth c s₁ P hx hby hml hrt hlk hown hnm hZ X0 e0 hP
  have N0 := Fr.nil n0
  have K0 := Keep.refl h0 []
  have hml' : c.maxLocals = 1 := hml
  refine ar0 (dr0 m o0) ?_
  show ac0 p e below P (s₁.setTop (mkF m 0 #[.val (.ref o0)] []))
  refine ab0 X0 hx (hb hby ba8) rfl rfl ?_
  refine ak1 X0 hx hZ hown (host := "") (Or.inl (z_w hw 59 rfl)) Via.refl e0 al0 (hb hby bb8) (fun T1 X1 e1 => ?_)
  refine ao3 X1 hx hZ e1 aj0 (j := (7 : Int32)) (by decide) (hb hby bc8) ?_
  refine ab0 X1 hx (hb hby bd8) rfl rfl ?_
  refine ag2 X1 hx hZ (y := (⟨z_s1, "coder", "()B"⟩ : MethodName)) (z := (⟨z_s1, "coder", "()B"⟩ : MethodName)) hown (z_w hw 60 rfl) (z_w hw 61 rfl) (notFace_of_selects (args := #[]) (mvT hZ (z_w hw 63 rfl))) (z_w hw 63 rfl) (z_w hw 62 rfl) (z_w hw 16 rfl) (z_w hw 64 rfl) E_o0 (ac9 l Z a0 hw [] o0 aa0 h0 n0 (Nat.le_trans Z0 K0.1) ai0 af0 hnz) 1 e1 hml' (argsL := []) (rest := [(.int (7 : Int32))]) (lenOf af5 rfl) (hb hby be8) (fun r2 T2 L2 X2 hQ2 => ?_)
  obtain ⟨rfl, Nq2, eq2⟩ := hQ2
  have N2 := Fr.app N0 Nq2
  show ac0 p e below P (T2.setTop (mkF m 9 #[.val (.ref o0)] [(.int (0 : Int32)), (.int (7 : Int32))]))
  refine al8 X2 hx (hb hby bf8) (z := ((7 : Int32) >>> ((0 : Int32) &&& 31))) rfl ?_
  rw [show ((7 : Int32) >>> ((0 : Int32) &&& 31)) = (7 : Int32) from by decide]
  show ac0 p e below P (T2.setTop (mkF m 10 #[.val (.ref o0)] [(.int (7 : Int32))]))
  exact aq4 X2 hx hlk hP hrt (hb hby bk7) (by decide) (by decide) ⟨rfl, N2, eq2⟩
theorem cl6 (m : MethodId) (o0 : Addr) : entryFrame m #[(.ref o0)] 1 = mkF m 0 #[.val (.ref o0)] [] := by first | (simp [entryFrame, mkF, argsToLocals, Value.category]; done) | rfl
set_option maxRecDepth 65536 in
set_option maxHeartbeats 40000000 in
theorem cp1 (l : Launch) (Z : State) (a0 : Array Value) (hw : ∀ d ∈ tables_1, d.before a0 Z = true) (ws : List Jvm.Cond) (o0 : Addr) (ad0 : Addr) (aa0 : Int32) (h0 : Heap) (n0 : Nat) (Z0 : n0 ≤ h0.size) (E_o0 : Exa Z h0 o0 z_s1) (al0 : Fld Z h0 o0 z_s1 "value" "[B" (.ref ad0)) (ai0 : Fld Z h0 o0 z_s1 "coder" "B" (.int (0 : Int32))) (af0 : Sta Z h0 z_s1 z_s8 "Z" (.int aa0)) (aj0 : ao0 Z h0 ad0 17) (hnz : ¬ (aa0 = (0 : Int32))) :
    as0 l Z (⟨z_s1, "length", "()I"⟩ : MethodName) jdk_42_method_54_code 1 (some .int) ws ({ frames := 1, cells := 0, slots := 0, locals := 13 } : Room) #[(.ref o0)] h0 (fun (v : Option Value) (h : Heap) (L : List Loc) => v = some (.int (17 : Int32)) ∧ Fr n0 L ∧ h = h0) := by
  refine aq0 (plainFor_of_name au1) ?_
  intro p e s m below meth c s₁ P hx hby hml hrt hlk hown hnm hZ X0 e0 hP
  have N0 := Fr.nil n0
  have K0 := Keep.refl h0 []
  have hml' : c.maxLocals = 1 := hml
  refine ar0 (cl6 m o0) ?_
  show ac0 p e below P (s₁.setTop (mkF m 0 #[.val (.ref o0)] []))
  refine ab0 X0 hx (hb hby ba8) rfl rfl ?_
  refine ak1 X0 hx hZ hown (host := "") (Or.inl (z_w hw 59 rfl)) Via.refl e0 al0 (hb hby bb8) (fun T1 X1 e1 => ?_)
  refine ao3 X1 hx hZ e1 aj0 (j := (17 : Int32)) (by decide) (hb hby bc8) ?_
  refine ab0 X1 hx (hb hby bd8) rfl rfl ?_
  refine ag2 X1 hx hZ (y := (⟨z_s1, "coder", "()B"⟩ : MethodName)) (z := (⟨z_s1, "coder", "()B"⟩ : MethodName)) hown (z_w hw 60 rfl) (z_w hw 61 rfl) (notFace_of_selects (args := #[]) (mvT hZ (z_w hw 63 rfl))) (z_w hw 63 rfl) (z_w hw 62 rfl) (z_w hw 16 rfl) (z_w hw 64 rfl) E_o0 (ac9 l Z a0 hw [] o0 aa0 h0 n0 (Nat.le_trans Z0 K0.1) ai0 af0 hnz) 1 e1 hml' (argsL := []) (rest := [(.int (17 : Int32))]) (lenOf af5 rfl) (hb hby be8) (fun r2 T2 L2 X2 hQ2 => ?_)
  obtain ⟨rfl, Nq2, eq2⟩ := hQ2
  have N2 := Fr.app N0 Nq2
  show ac0 p e below P (T2.setTop (mkF m 9 #[.val (.ref o0)] [(.int (0 : Int32)), (.int (17 : Int32))]))
  refine al8 X2 hx (hb hby bf8) (z := ((17 : Int32) >>> ((0 : Int32) &&& 31))) rfl ?_
  rw [show ((17 : Int32) >>> ((0 : Int32) &&& 31)) = (17 : Int32) from by decide]
  show ac0 p e below P (T2.setTop (mkF m 10 #[.val (.ref o0)] [(.int (17 : Int32))]))
  exact aq4 X2 hx hlk hP hrt (hb hby bk7) (by decide) (by decide) ⟨rfl, N2, eq2⟩
theorem dt6 : decode jdk_68_method_71_code 0 = .ok (.getstatic 18, 3) := by decide +kernel
theorem du6 : decode jdk_68_method_71_code 3 = .ok (.ifCond .eq 18, 3) := by decide +kernel
theorem dv6 : decode jdk_68_method_71_code 6 = .ok (.aload_n 0, 1) := by decide +kernel
theorem dw6 : decode jdk_68_method_71_code 7 = .ok (.getfield 22, 3) := by decide +kernel
theorem ds0 : decode jdk_68_method_71_code 10 = .ok (.aload_n 1, 1) := by decide +kernel
theorem dt0 : decode jdk_68_method_71_code 11 = .ok (.invokevirtual 40, 3) := by decide +kernel
theorem du0 : decode jdk_68_method_71_code 14 = .ok (.if_icmp .eq 7, 3) := by decide +kernel
theorem dv0 : decode jdk_68_method_71_code 21 = .ok (.return_, 1) := by decide +kernel
theorem dx6 (m : MethodId) (o0 : Addr) (o1 : Addr) : entryFrame m #[(.ref o0), (.ref o1)] 2 = mkF m 0 #[.val (.ref o0), .val (.ref o1)] [] := by first | (simp [entryFrame, mkF, argsToLocals, Value.category]; done) | rfl
set_option maxRecDepth 65536 in
set_option maxHeartbeats 40000000 in
theorem by6 (l : Launch) (Z : State) (a0 : Array Value) (hw : ∀ d ∈ tables_1, d.before a0 Z = true) (ws : List Jvm.Cond) (o0 : Addr) (o1 : Addr) (aa0 : Int32) (h0 : Heap) (n0 : Nat) (Z0 : n0 ≤ h0.size) (E_o0 : Exa Z h0 o0 z_s2) (E_o1 : Exa Z h0 o1 z_s1) (ai0 : Fld Z h0 o0 z_s0 "coder" "B" (.int (0 : Int32))) (aa1 : Fld Z h0 o1 z_s1 "coder" "B" (.int (0 : Int32))) (af0 : Sta Z h0 z_s1 z_s8 "Z" (.int aa0)) (hnz : ¬ (aa0 = (0 : Int32))) :
    as0 l Z (⟨z_s0, "inflateIfNeededFor", "(Ljava/lang/String;)V"⟩ : MethodName) jdk_68_method_71_code 2 none ws ({ frames := 1, cells := 0, slots := 0, locals := 13 } : Room) #[(.ref o0), (.ref o1)] h0 (fun (v : Option Value) (h : Heap) (L : List Loc) => v = none ∧ Fr n0 L ∧ h = h0) := by
  refine aq0 (plainFor_of_name ap0) ?_
  intro p e s m below meth c s₁ P hx hby hml hrt hlk hown hnm hZ X0 e0 hP
  have N0 := Fr.nil n0
  have K0 := Keep.refl h0 []
  have hml' : c.maxLocals = 2 := hml
  refine ar0 (dx6 m o0 o1) ?_
  show ac0 p e below P (s₁.setTop (mkF m 0 #[.val (.ref o0), .val (.ref o1)] []))
  refine cz4 X0 hx hZ hown (host := "") (Or.inl (z_w hw 39 rfl)) Via.refl e0 af0 (hb hby dt6) (fun T1 X1 e1 => ?_)
  refine aa3 X1 hx (hb hby du6) ((if0 _ _).trans (feq hnz).1) ?_
  refine ab0 X1 hx (hb hby dv6) rfl rfl ?_
  refine ak1 X1 hx hZ hown (host := "") (Or.inl (z_w hw 42 rfl)) Via.refl e1 ai0 (hb hby dw6) (fun T2 X2 e2 => ?_)
  refine ab0 X2 hx (hb hby ds0) rfl rfl ?_
  refine ag2 X2 hx hZ (y := (⟨z_s1, "coder", "()B"⟩ : MethodName)) (z := (⟨z_s1, "coder", "()B"⟩ : MethodName)) hown (z_w hw 84 rfl) (z_w hw 61 rfl) (notFace_of_selects (args := #[]) (mvT hZ (z_w hw 63 rfl))) (z_w hw 63 rfl) (z_w hw 62 rfl) (z_w hw 16 rfl) (z_w hw 64 rfl) E_o1 (ac9 l Z a0 hw [] o1 aa0 h0 n0 (Nat.le_trans Z0 K0.1) aa1 af0 hnz) 1 e2 hml' (argsL := []) (rest := [(.int (0 : Int32))]) (lenOf af5 rfl) (hb hby dt0) (fun r3 T3 L3 X3 hQ3 => ?_)
  obtain ⟨rfl, Nq3, eq3⟩ := hQ3
  have N3 := Fr.app N0 Nq3
  show ac0 p e below P (T3.setTop (mkF m 14 #[.val (.ref o0), .val (.ref o1)] [(.int (0 : Int32)), (.int (0 : Int32))]))
  refine au0 X3 hx (pc' := 21) (hb hby du0) (teq (by decide : (0 : Int32) = (0 : Int32))).1 ?_
  exact at1 X3 hx hlk hP hrt (hb hby dv0) (by decide) (by decide) ⟨rfl, N3, eq3⟩
theorem dy6 : decode jdk_65_method_121_code 0 = .ok (.iload_n 1, 1) := by decide +kernel
theorem dz6 : decode jdk_65_method_121_code 1 = .ok (.aload_n 0, 1) := by decide +kernel
theorem d7 : decode jdk_65_method_121_code 2 = .ok (.arraylength, 1) := by decide +kernel
theorem da7 : decode jdk_65_method_121_code 3 = .ok (.if_icmp .ne 11, 3) := by decide +kernel
theorem dw0 : decode jdk_65_method_121_code 14 = .ok (.iload_n 1, 1) := by decide +kernel
theorem dx0 : decode jdk_65_method_121_code 15 = .ok (.newarray .byte, 2) := by decide +kernel
theorem dy0 : decode jdk_65_method_121_code 17 = .ok (.astore_n 2, 1) := by decide +kernel
theorem dz0 : decode jdk_65_method_121_code 18 = .ok (.aload_n 0, 1) := by decide +kernel
theorem da1 : decode jdk_65_method_121_code 19 = .ok (.iconst 0, 1) := by decide +kernel
theorem db1 : decode jdk_65_method_121_code 20 = .ok (.aload_n 2, 1) := by decide +kernel
theorem dc1 : decode jdk_65_method_121_code 21 = .ok (.iconst 0, 1) := by decide +kernel
theorem dd1 : decode jdk_65_method_121_code 22 = .ok (.aload_n 0, 1) := by decide +kernel
theorem de1 : decode jdk_65_method_121_code 23 = .ok (.arraylength, 1) := by decide +kernel
theorem df1 : decode jdk_65_method_121_code 24 = .ok (.iload_n 1, 1) := by decide +kernel
theorem dg1 : decode jdk_65_method_121_code 25 = .ok (.invokestatic 304, 3) := by decide +kernel
theorem ap2 : parseMethodDescriptor "(II)I" = some ⟨[.int, .int], some .int⟩ := by decide +kernel
theorem dh1 : decode jdk_65_method_121_code 28 = .ok (.invokestatic 150, 3) := by decide +kernel
theorem di1 : decode jdk_65_method_121_code 31 = .ok (.aload_n 2, 1) := by decide +kernel
theorem dj1 : decode jdk_65_method_121_code 32 = .ok (.areturn, 1) := by decide +kernel
theorem db7 (m : MethodId) (o0 : Addr) : entryFrame m #[(.ref o0), (.int (34 : Int32))] 3 = mkF m 0 #[.val (.ref o0), .val (.int (34 : Int32)), .unset] [] := by first | (simp [entryFrame, mkF, argsToLocals, Value.category]; done) | rfl
theorem az0 : plainName z_s5 = true := by first | (simp [plainName, overriddenIn]; done) | decide +kernel
set_option maxRecDepth 65536 in
set_option maxHeartbeats 40000000 in
theorem cs4 (l : Launch) (Z : State) (a0 : Array Value) (hw : ∀ d ∈ tables_1, d.before a0 Z = true) (ws : List Jvm.Cond) (o0 : Addr)  (h0 : Heap) (n0 : Nat) (Z0 : n0 ≤ h0.size) (A_o0 : ao0 Z h0 o0 16) :
    as0 l Z (⟨z_s5, "copyOf", "([BI)[B"⟩ : MethodName) jdk_65_method_121_code 3 (some (.array .byte)) ws ({ frames := 1, cells := 1, slots := 34, locals := 40 } : Room) #[(.ref o0), (.int (34 : Int32))] h0 (fun (v : Option Value) (h : Heap) (L : List Loc) => ∃ (b1 : Addr), v = some (.ref b1) ∧ Fr n0 L ∧ Keep h0 h [] ∧ h0.size ≤ b1 ∧ n0 ≤ b1 ∧ ao0 Z h b1 34) := by
  refine aq0 (plainFor_of_name az0) ?_
  intro p e s m below meth c s₁ P hx hby hml hrt hlk hown hnm hZ X0 e0 hP
  have N0 := Fr.nil n0
  have K0 := Keep.refl h0 []
  have hml' : c.maxLocals = 3 := hml
  refine ar0 (db7 m o0) ?_
  show ac0 p e below P (s₁.setTop (mkF m 0 #[.val (.ref o0), .val (.int (34 : Int32)), .unset] []))
  refine ae0 X0 hx (hb hby dy6) rfl ?_
  refine ab0 X0 hx (hb hby dz6) rfl rfl ?_
  refine ao3 X0 hx hZ e0 A_o0 (j := (16 : Int32)) (by decide) (hb hby d7) ?_
  refine au0 X0 hx (pc' := 14) (hb hby da7) (feq (by decide : ¬ ((34 : Int32) = (16 : Int32)))).2 ?_
  refine ae0 X0 hx (hb hby dw0) rfl ?_
  refine cg4 X0 hx hZ (z_w hw 18 rfl) e0 (j := (34 : Int32)) (n := 34) (by decide) 34 (by decide) (by decide) (by decide) (by decide) (hb hby dx0) (fun T1 h1 X1 e1 E1 B1 => ?_)
  obtain ⟨b1, g1⟩ : ∃ z, z = h0.size := ⟨_, rfl⟩
  rw [← g1] at B1 ⊢
  have ne2 := z_nb A_o0.lt g1
  have ao1 : n0 ≤ b1 := Nat.le_trans (Nat.le_trans Z0 K0.1) (Nat.le_of_eq g1.symm)
  have ay1 : h0.size ≤ b1 := Nat.le_trans K0.1 (Nat.le_of_eq g1.symm)
  have K1 := Keep.ext K0 E1
  have A1 : ao0 Z h1 b1 34 := B1
  refine av2 X1 hx (hb hby dy0) rfl (l' := #[.val (.ref o0), .val (.int (34 : Int32)), .val (.ref b1)]) rfl ?_
  refine ab0 X1 hx (hb hby dz0) rfl rfl ?_
  refine am0 X1 hx (hb hby da1) (z := (0 : Int32)) rfl ?_
  refine ab0 X1 hx (hb hby db1) rfl rfl ?_
  refine am0 X1 hx (hb hby dc1) (z := (0 : Int32)) rfl ?_
  refine ab0 X1 hx (hb hby dd1) rfl rfl ?_
  have G3 := (A_o0.ext E1)
  refine ao3 X1 hx hZ e1 G3 (j := (16 : Int32)) (by decide) (hb hby de1) ?_
  refine ae0 X1 hx (hb hby df1) rfl ?_
  refine af1 X1 hx hZ (y := (⟨"java/lang/Math", "min", "(II)I"⟩ : MethodName)) hown (z_w hw 114 rfl) (z_w hw 115 rfl) (z_w hw 106 rfl) (z_w hw 116 rfl) (af6 l Z a0 hw [] (16 : Int32) (34 : Int32)  h1 n0 (Nat.le_trans Z0 K1.1) ) 4 e1 hml' (argsL := [(.int (16 : Int32)), (.int (34 : Int32))]) (rest := [(.int (0 : Int32)), (.ref b1), (.int (0 : Int32)), (.ref o0)]) (lenOf ap2 rfl) (hb hby dg1) (fun r4 T4 L4 X4 hQ4 => ?_)
  obtain ⟨rfl, Nq4, eq4⟩ := hQ4
  have N4 := Fr.app N0 Nq4
  show ac0 p e below P (T4.setTop (mkF m 28 #[.val (.ref o0), .val (.int (34 : Int32)), .val (.ref b1)] [(.int (as2 (16 : Int32) (34 : Int32))), (.int (0 : Int32)), (.ref b1), (.int (0 : Int32)), (.ref o0)]))
  rw [show (as2 (16 : Int32) (34 : Int32)) = (16 : Int32) from by decide]
  show ac0 p e below P (T4.setTop (mkF m 28 #[.val (.ref o0), .val (.int (34 : Int32)), .val (.ref b1)] [(.int (16 : Int32)), (.int (0 : Int32)), (.ref b1), (.int (0 : Int32)), (.ref o0)]))
  refine az8 X4 hx hZ hown (z_w hw 117 rfl) (z_w hw 93 rfl) (z_w hw 91 rfl) (z_w hw 92 rfl) eq4 G3 A1 (sp := 0) (dp := 0) (n := 16) (by decide) (by decide) (by decide) (by decide) (by decide) N4 ao1 (g := (mkF m 28 #[.val (.ref o0), .val (.int (34 : Int32)), .val (.ref b1)] [(.int (16 : Int32)), (.int (0 : Int32)), (.ref b1), (.int (0 : Int32)), (.ref o0)])) rfl (by rw [hml']; rfl) rfl (hb hby dh1) (by decide) 0 (by show 2 * 0 + _ ≤ _; exact Nat.le_of_eq rfl) (by decide) (fun T5 h5 L5 X5 e5 N5 Kq5 B5 => ?_)
  have K5 := Keep.trans K1 Kq5 (allS (Or.inr ay1) all0)
  show ac0 p e below P (T5.setTop (mkF m 31 #[.val (.ref o0), .val (.int (34 : Int32)), .val (.ref b1)] []))
  refine ab0 X5 hx (hb hby di1) rfl rfl ?_
  have hfin : ((fun (v : Option Value) (h : Heap) (L : List Loc) => ∃ (b1 : Addr), v = some (.ref b1) ∧ Fr n0 L ∧ Keep h0 h [] ∧ h0.size ≤ b1 ∧ n0 ≤ b1 ∧ ao0 Z h b1 34)) (some (.ref b1)) h5 _ := ⟨b1, rfl, N5, K5, ay1, ao1, B5⟩
  refine as1 X5 hx hlk hP rfl rfl hrt (hb hby dj1) (by decide) (by decide) ?_
  rw [e5]; exact hfin
theorem bb5 : decode jdk_42_method_147_code 0 = .ok (.aload_n 0, 1) := by decide +kernel
theorem bc5 : decode jdk_42_method_147_code 1 = .ok (.invokevirtual 335, 3) := by decide +kernel
theorem bd5 : decode jdk_42_method_147_code 4 = .ok (.iload_n 3, 1) := by decide +kernel
theorem be5 : decode jdk_42_method_147_code 5 = .ok (.if_icmp .ne 23, 3) := by decide +kernel
theorem bf5 : decode jdk_42_method_147_code 8 = .ok (.aload_n 0, 1) := by decide +kernel
theorem bg5 : decode jdk_42_method_147_code 9 = .ok (.getfield 9, 3) := by decide +kernel
theorem bq1 : decode jdk_42_method_147_code 12 = .ok (.iconst 0, 1) := by decide +kernel
theorem br1 : decode jdk_42_method_147_code 13 = .ok (.aload_n 1, 1) := by decide +kernel
theorem bs1 : decode jdk_42_method_147_code 14 = .ok (.iload_n 2, 1) := by decide +kernel
theorem bt1 : decode jdk_42_method_147_code 15 = .ok (.iload_n 3, 1) := by decide +kernel
theorem bu1 : decode jdk_42_method_147_code 16 = .ok (.ishl, 1) := by decide +kernel
theorem bv1 : decode jdk_42_method_147_code 17 = .ok (.aload_n 0, 1) := by decide +kernel
theorem bw1 : decode jdk_42_method_147_code 18 = .ok (.getfield 9, 3) := by decide +kernel
theorem bx1 : decode jdk_42_method_147_code 21 = .ok (.arraylength, 1) := by decide +kernel
theorem by1 : decode jdk_42_method_147_code 22 = .ok (.invokestatic 212, 3) := by decide +kernel
theorem bz1 : decode jdk_42_method_147_code 25 = .ok (.goto 18, 3) := by decide +kernel
theorem ba2 : decode jdk_42_method_147_code 43 = .ok (.return_, 1) := by decide +kernel
theorem cm6 (m : MethodId) (o0 : Addr) (o1 : Addr) : entryFrame m #[(.ref o0), (.ref o1), (.int (0 : Int32)), (.int (0 : Int32))] 4 = mkF m 0 #[.val (.ref o0), .val (.ref o1), .val (.int (0 : Int32)), .val (.int (0 : Int32))] [] := by first | (simp [entryFrame, mkF, argsToLocals, Value.category]; done) | rfl
set_option maxRecDepth 65536 in
set_option maxHeartbeats 40000000 in
theorem dk1 (l : Launch) (Z : State) (a0 : Array Value) (hw : ∀ d ∈ tables_1, d.before a0 Z = true) (ws : List Jvm.Cond) (o0 : Addr) (o1 : Addr) (ad0 : Addr) (aa0 : Int32) (h0 : Heap) (n0 : Nat) (Z0 : n0 ≤ h0.size) (E_o0 : Exa Z h0 o0 z_s1) (al0 : Fld Z h0 o0 z_s1 "value" "[B" (.ref ad0)) (ai0 : Fld Z h0 o0 z_s1 "coder" "B" (.int (0 : Int32))) (af0 : Sta Z h0 z_s1 z_s8 "Z" (.int aa0)) (aj0 : ao0 Z h0 ad0 5) (A_o1 : ao0 Z h0 o1 16) (ai6 : n0 ≤ o1) (bo7 : o1 ≠ o0) (ad9 : o1 ≠ ad0) (hnz : ¬ (aa0 = (0 : Int32))) :
    as0 l Z (⟨z_s1, "getBytes", "([BIB)V"⟩ : MethodName) jdk_42_method_147_code 4 none ws ({ frames := 1, cells := 0, slots := 0, locals := 40 } : Room) #[(.ref o0), (.ref o1), (.int (0 : Int32)), (.int (0 : Int32))] h0 (fun (v : Option Value) (h : Heap) (L : List Loc) => v = none ∧ Fr n0 L ∧ Keep h0 h [o1] ∧ ao0 Z h o1 16) := by
  refine aq0 (plainFor_of_name au1) ?_
  intro p e s m below meth c s₁ P hx hby hml hrt hlk hown hnm hZ X0 e0 hP
  have N0 := Fr.nil n0
  have K0 := Keep.refl h0 [o1]
  have hml' : c.maxLocals = 4 := hml
  refine ar0 (cm6 m o0 o1) ?_
  show ac0 p e below P (s₁.setTop (mkF m 0 #[.val (.ref o0), .val (.ref o1), .val (.int (0 : Int32)), .val (.int (0 : Int32))] []))
  refine ab0 X0 hx (hb hby bb5) rfl rfl ?_
  refine ag2 X0 hx hZ (y := (⟨z_s1, "coder", "()B"⟩ : MethodName)) (z := (⟨z_s1, "coder", "()B"⟩ : MethodName)) hown (z_w hw 60 rfl) (z_w hw 61 rfl) (notFace_of_selects (args := #[]) (mvT hZ (z_w hw 63 rfl))) (z_w hw 63 rfl) (z_w hw 62 rfl) (z_w hw 16 rfl) (z_w hw 64 rfl) E_o0 (ac9 l Z a0 hw [] o0 aa0 h0 n0 (Nat.le_trans Z0 K0.1) ai0 af0 hnz) 0 e0 hml' (argsL := []) (rest := []) (lenOf af5 rfl) (hb hby bc5) (fun r1 T1 L1 X1 hQ1 => ?_)
  obtain ⟨rfl, Nq1, eq1⟩ := hQ1
  have N1 := Fr.app N0 Nq1
  show ac0 p e below P (T1.setTop (mkF m 4 #[.val (.ref o0), .val (.ref o1), .val (.int (0 : Int32)), .val (.int (0 : Int32))] [(.int (0 : Int32))]))
  refine ae0 X1 hx (hb hby bd5) rfl ?_
  refine av0 X1 hx (hb hby be5) (teq (by decide : (0 : Int32) = (0 : Int32))).2 ?_
  refine ab0 X1 hx (hb hby bf5) rfl rfl ?_
  refine ak1 X1 hx hZ hown (host := "") (Or.inl (z_w hw 59 rfl)) Via.refl eq1 al0 (hb hby bg5) (fun T2 X2 e2 => ?_)
  refine am0 X2 hx (hb hby bq1) (z := (0 : Int32)) rfl ?_
  refine ab0 X2 hx (hb hby br1) rfl rfl ?_
  refine ae0 X2 hx (hb hby bs1) rfl ?_
  refine ae0 X2 hx (hb hby bt1) rfl ?_
  refine aa9 X2 hx (hb hby bu1) (z := ((0 : Int32) <<< ((0 : Int32) &&& 31))) rfl ?_
  rw [show ((0 : Int32) <<< ((0 : Int32) &&& 31)) = (0 : Int32) from by decide]
  show ac0 p e below P (T2.setTop (mkF m 17 #[.val (.ref o0), .val (.ref o1), .val (.int (0 : Int32)), .val (.int (0 : Int32))] [(.int (0 : Int32)), (.ref o1), (.int (0 : Int32)), (.ref ad0)]))
  refine ab0 X2 hx (hb hby bv1) rfl rfl ?_
  refine ak1 X2 hx hZ hown (host := "") (Or.inl (z_w hw 59 rfl)) Via.refl e2 al0 (hb hby bw1) (fun T3 X3 e3 => ?_)
  refine ao3 X3 hx hZ e3 aj0 (j := (5 : Int32)) (by decide) (hb hby bx1) ?_
  refine az8 X3 hx hZ hown (z_w hw 90 rfl) (z_w hw 93 rfl) (z_w hw 91 rfl) (z_w hw 92 rfl) e3 aj0 A_o1 (sp := 0) (dp := 0) (n := 5) (by decide) (by decide) (by decide) (by decide) (by decide) N1 ai6 (g := (mkF m 22 #[.val (.ref o0), .val (.ref o1), .val (.int (0 : Int32)), .val (.int (0 : Int32))] [(.int (5 : Int32)), (.int (0 : Int32)), (.ref o1), (.int (0 : Int32)), (.ref ad0)])) rfl (by rw [hml']; rfl) rfl (hb hby by1) (by decide) 0 (by show 2 * 0 + _ ≤ _; exact Nat.le_of_eq rfl) (by decide) (fun T4 h4 L4 X4 e4 N4 Kq4 B4 => ?_)
  have K4 := Keep.trans K0 Kq4 (allS (Or.inl (List.mem_of_getElem? (i := 0) rfl)) all0)
  show ac0 p e below P (T4.setTop (mkF m 25 #[.val (.ref o0), .val (.ref o1), .val (.int (0 : Int32)), .val (.int (0 : Int32))] []))
  refine am1 X4 hx (pc' := 43) (hb hby bz1) ?_
  have hfin : ((fun (v : Option Value) (h : Heap) (L : List Loc) => v = none ∧ Fr n0 L ∧ Keep h0 h [o1] ∧ ao0 Z h o1 16)) none h4 _ := ⟨rfl, N4, K4, B4⟩
  refine at1 X4 hx hlk hP hrt (hb hby ba2) (by decide) (by decide) ?_
  rw [e4]; exact hfin
theorem bh5 : decode jdk_68_method_73_code 0 = .ok (.aload_n 0, 1) := by decide +kernel
theorem bi5 : decode jdk_68_method_73_code 1 = .ok (.aload_n 2, 1) := by decide +kernel
theorem bj5 : decode jdk_68_method_73_code 2 = .ok (.invokevirtual 397, 3) := by decide +kernel
theorem ae3 : parseMethodDescriptor "(Ljava/lang/String;)V" = some ⟨[(.object z_s1)], none⟩ := by decide +kernel
theorem bk5 : decode jdk_68_method_73_code 5 = .ok (.aload_n 2, 1) := by decide +kernel
theorem bl5 : decode jdk_68_method_73_code 6 = .ok (.aload_n 0, 1) := by decide +kernel
theorem bm5 : decode jdk_68_method_73_code 7 = .ok (.getfield 15, 3) := by decide +kernel
theorem bb2 : decode jdk_68_method_73_code 10 = .ok (.iload_n 1, 1) := by decide +kernel
theorem bc2 : decode jdk_68_method_73_code 11 = .ok (.aload_n 0, 1) := by decide +kernel
theorem bd2 : decode jdk_68_method_73_code 12 = .ok (.getfield 22, 3) := by decide +kernel
theorem be2 : decode jdk_68_method_73_code 15 = .ok (.invokevirtual 399, 3) := by decide +kernel
theorem an7 : parseMethodDescriptor "([BIB)V" = some ⟨[(.array .byte), .int, .byte], none⟩ := by decide +kernel
theorem bf2 : decode jdk_68_method_73_code 18 = .ok (.return_, 1) := by decide +kernel
theorem cn6 (m : MethodId) (o0 : Addr) (o2 : Addr) : entryFrame m #[(.ref o0), (.int (0 : Int32)), (.ref o2)] 3 = mkF m 0 #[.val (.ref o0), .val (.int (0 : Int32)), .val (.ref o2)] [] := by first | (simp [entryFrame, mkF, argsToLocals, Value.category]; done) | rfl
set_option maxRecDepth 65536 in
set_option maxHeartbeats 40000000 in
theorem dl1 (l : Launch) (Z : State) (a0 : Array Value) (hw : ∀ d ∈ tables_1, d.before a0 Z = true) (ws : List Jvm.Cond) (o0 : Addr) (o2 : Addr) (ad0 : Addr) (aq2 : Addr) (aa0 : Int32) (h0 : Heap) (n0 : Nat) (Z0 : n0 ≤ h0.size) (E_o0 : Exa Z h0 o0 z_s2) (E_o2 : Exa Z h0 o2 z_s1) (al0 : Fld Z h0 o0 z_s0 "value" "[B" (.ref ad0)) (ai0 : Fld Z h0 o0 z_s0 "coder" "B" (.int (0 : Int32))) (ag7 : Fld Z h0 o2 z_s1 "value" "[B" (.ref aq2)) (al4 : Fld Z h0 o2 z_s1 "coder" "B" (.int (0 : Int32))) (af0 : Sta Z h0 z_s1 z_s8 "Z" (.int aa0)) (ag5 : ao0 Z h0 aq2 5) (aj0 : ao0 Z h0 ad0 16) (av1 : n0 ≤ ad0) (ae9 : ad0 ≠ o0) (as3 : ad0 ≠ o2) (at2 : ad0 ≠ aq2) (hnz : ¬ (aa0 = (0 : Int32))) :
    as0 l Z (⟨z_s0, "putStringAt", "(ILjava/lang/String;)V"⟩ : MethodName) jdk_68_method_73_code 3 none ws ({ frames := 2, cells := 0, slots := 0, locals := 55 } : Room) #[(.ref o0), (.int (0 : Int32)), (.ref o2)] h0 (fun (v : Option Value) (h : Heap) (L : List Loc) => v = none ∧ Fr n0 L ∧ Keep h0 h [ad0] ∧ ao0 Z h ad0 16) := by
  refine aq0 (plainFor_of_name ap0) ?_
  intro p e s m below meth c s₁ P hx hby hml hrt hlk hown hnm hZ X0 e0 hP
  have N0 := Fr.nil n0
  have K0 := Keep.refl h0 [ad0]
  have hml' : c.maxLocals = 3 := hml
  refine ar0 (cn6 m o0 o2) ?_
  show ac0 p e below P (s₁.setTop (mkF m 0 #[.val (.ref o0), .val (.int (0 : Int32)), .val (.ref o2)] []))
  refine ab0 X0 hx (hb hby bh5) rfl rfl ?_
  refine ab0 X0 hx (hb hby bi5) rfl rfl ?_
  refine a5 X0 hx hZ (y := (⟨z_s0, "inflateIfNeededFor", "(Ljava/lang/String;)V"⟩ : MethodName)) (z := (⟨z_s0, z_s6, "(I)V"⟩ : MethodName)) hown (z_w hw 79 rfl) (z_w hw 80 rfl) rfl (z_w hw 72 rfl) (z_w hw 81 rfl) (z_w hw 36 rfl) (z_w hw 83 rfl) E_o0 (by6 l Z a0 hw [] o0 o2 aa0 h0 n0 (Nat.le_trans Z0 K0.1) E_o0 E_o2 ai0 al4 af0 hnz) 0 e0 hml' (argsL := [(.ref o2)]) (rest := []) (lenOf ae3 rfl) (hb hby bj5) (fun r1 T1 L1 X1 hQ1 => ?_)
  obtain ⟨rfl, Nq1, eq1⟩ := hQ1
  have N1 := Fr.app N0 Nq1
  show ac0 p e below P (T1.setTop (mkF m 5 #[.val (.ref o0), .val (.int (0 : Int32)), .val (.ref o2)] []))
  refine ab0 X1 hx (hb hby bk5) rfl rfl ?_
  refine ab0 X1 hx (hb hby bl5) rfl rfl ?_
  refine ak1 X1 hx hZ hown (host := "") (Or.inl (z_w hw 40 rfl)) Via.refl eq1 al0 (hb hby bm5) (fun T2 X2 e2 => ?_)
  refine ae0 X2 hx (hb hby bb2) rfl ?_
  refine ab0 X2 hx (hb hby bc2) rfl rfl ?_
  refine ak1 X2 hx hZ hown (host := "") (Or.inl (z_w hw 42 rfl)) Via.refl e2 ai0 (hb hby bd2) (fun T3 X3 e3 => ?_)
  refine ag2 X3 hx hZ (y := (⟨z_s1, "getBytes", "([BIB)V"⟩ : MethodName)) (z := (⟨z_s1, "getBytes", "([BIB)V"⟩ : MethodName)) hown (z_w hw 85 rfl) (z_w hw 86 rfl) (notFace_of_selects (args := #[]) (mvT hZ (z_w hw 88 rfl))) (z_w hw 88 rfl) (z_w hw 87 rfl) (z_w hw 16 rfl) (z_w hw 89 rfl) E_o2 (dk1 l Z a0 hw [] o2 ad0 aq2 aa0 h0 n0 (Nat.le_trans Z0 K0.1) E_o2 ag7 al4 af0 ag5 aj0 av1 as3 at2 hnz) 0 e3 hml' (argsL := [(.ref ad0), (.int (0 : Int32)), (.int (0 : Int32))]) (rest := []) (lenOf an7 rfl) (hb hby be2) (fun r4 T4 L4 X4 hQ4 => ?_)
  obtain ⟨rfl, Nq4, Kq4, f0_4⟩ := hQ4
  have N4 := Fr.app N1 Nq4
  have K4 := Keep.trans K0 Kq4 (allS (Or.inl (List.mem_of_getElem? (i := 0) rfl)) all0)
  show ac0 p e below P (T4.setTop (mkF m 18 #[.val (.ref o0), .val (.int (0 : Int32)), .val (.ref o2)] []))
  have hfin : ((fun (v : Option Value) (h : Heap) (L : List Loc) => v = none ∧ Fr n0 L ∧ Keep h0 h [ad0] ∧ ao0 Z h ad0 16)) none T4.heap _ := ⟨rfl, N4, K4, f0_4⟩
  refine at1 X4 hx hlk hP hrt (hb hby bf2) (by decide) (by decide) ?_
  exact hfin
theorem co6 (m : MethodId) (o0 : Addr) (o1 : Addr) : entryFrame m #[(.ref o0), (.ref o1), (.int (0 : Int32)), (.int (0 : Int32))] 4 = mkF m 0 #[.val (.ref o0), .val (.ref o1), .val (.int (0 : Int32)), .val (.int (0 : Int32))] [] := by first | (simp [entryFrame, mkF, argsToLocals, Value.category]; done) | rfl
set_option maxRecDepth 65536 in
set_option maxHeartbeats 40000000 in
theorem dm1 (l : Launch) (Z : State) (a0 : Array Value) (hw : ∀ d ∈ tables_1, d.before a0 Z = true) (ws : List Jvm.Cond) (o0 : Addr) (o1 : Addr) (ad0 : Addr) (aa0 : Int32) (h0 : Heap) (n0 : Nat) (Z0 : n0 ≤ h0.size) (E_o0 : Exa Z h0 o0 z_s1) (al0 : Fld Z h0 o0 z_s1 "value" "[B" (.ref ad0)) (ai0 : Fld Z h0 o0 z_s1 "coder" "B" (.int (0 : Int32))) (af0 : Sta Z h0 z_s1 z_s8 "Z" (.int aa0)) (aj0 : ao0 Z h0 ad0 6) (A_o1 : ao0 Z h0 o1 16) (ai6 : n0 ≤ o1) (bo7 : o1 ≠ o0) (ad9 : o1 ≠ ad0) (hnz : ¬ (aa0 = (0 : Int32))) :
    as0 l Z (⟨z_s1, "getBytes", "([BIB)V"⟩ : MethodName) jdk_42_method_147_code 4 none ws ({ frames := 1, cells := 0, slots := 0, locals := 40 } : Room) #[(.ref o0), (.ref o1), (.int (0 : Int32)), (.int (0 : Int32))] h0 (fun (v : Option Value) (h : Heap) (L : List Loc) => v = none ∧ Fr n0 L ∧ Keep h0 h [o1] ∧ ao0 Z h o1 16) := by
  refine aq0 (plainFor_of_name au1) ?_
  intro p e s m below meth c s₁ P hx hby hml hrt hlk hown hnm hZ X0 e0 hP
  have N0 := Fr.nil n0
  have K0 := Keep.refl h0 [o1]
  have hml' : c.maxLocals = 4 := hml
  refine ar0 (co6 m o0 o1) ?_
  show ac0 p e below P (s₁.setTop (mkF m 0 #[.val (.ref o0), .val (.ref o1), .val (.int (0 : Int32)), .val (.int (0 : Int32))] []))
  refine ab0 X0 hx (hb hby bb5) rfl rfl ?_
  refine ag2 X0 hx hZ (y := (⟨z_s1, "coder", "()B"⟩ : MethodName)) (z := (⟨z_s1, "coder", "()B"⟩ : MethodName)) hown (z_w hw 60 rfl) (z_w hw 61 rfl) (notFace_of_selects (args := #[]) (mvT hZ (z_w hw 63 rfl))) (z_w hw 63 rfl) (z_w hw 62 rfl) (z_w hw 16 rfl) (z_w hw 64 rfl) E_o0 (ac9 l Z a0 hw [] o0 aa0 h0 n0 (Nat.le_trans Z0 K0.1) ai0 af0 hnz) 0 e0 hml' (argsL := []) (rest := []) (lenOf af5 rfl) (hb hby bc5) (fun r1 T1 L1 X1 hQ1 => ?_)
  obtain ⟨rfl, Nq1, eq1⟩ := hQ1
  have N1 := Fr.app N0 Nq1
  show ac0 p e below P (T1.setTop (mkF m 4 #[.val (.ref o0), .val (.ref o1), .val (.int (0 : Int32)), .val (.int (0 : Int32))] [(.int (0 : Int32))]))
  refine ae0 X1 hx (hb hby bd5) rfl ?_
  refine av0 X1 hx (hb hby be5) (teq (by decide : (0 : Int32) = (0 : Int32))).2 ?_
  refine ab0 X1 hx (hb hby bf5) rfl rfl ?_
  refine ak1 X1 hx hZ hown (host := "") (Or.inl (z_w hw 59 rfl)) Via.refl eq1 al0 (hb hby bg5) (fun T2 X2 e2 => ?_)
  refine am0 X2 hx (hb hby bq1) (z := (0 : Int32)) rfl ?_
  refine ab0 X2 hx (hb hby br1) rfl rfl ?_
  refine ae0 X2 hx (hb hby bs1) rfl ?_
  refine ae0 X2 hx (hb hby bt1) rfl ?_
  refine aa9 X2 hx (hb hby bu1) (z := ((0 : Int32) <<< ((0 : Int32) &&& 31))) rfl ?_
  rw [show ((0 : Int32) <<< ((0 : Int32) &&& 31)) = (0 : Int32) from by decide]
  show ac0 p e below P (T2.setTop (mkF m 17 #[.val (.ref o0), .val (.ref o1), .val (.int (0 : Int32)), .val (.int (0 : Int32))] [(.int (0 : Int32)), (.ref o1), (.int (0 : Int32)), (.ref ad0)]))
  refine ab0 X2 hx (hb hby bv1) rfl rfl ?_
  refine ak1 X2 hx hZ hown (host := "") (Or.inl (z_w hw 59 rfl)) Via.refl e2 al0 (hb hby bw1) (fun T3 X3 e3 => ?_)
  refine ao3 X3 hx hZ e3 aj0 (j := (6 : Int32)) (by decide) (hb hby bx1) ?_
  refine az8 X3 hx hZ hown (z_w hw 90 rfl) (z_w hw 93 rfl) (z_w hw 91 rfl) (z_w hw 92 rfl) e3 aj0 A_o1 (sp := 0) (dp := 0) (n := 6) (by decide) (by decide) (by decide) (by decide) (by decide) N1 ai6 (g := (mkF m 22 #[.val (.ref o0), .val (.ref o1), .val (.int (0 : Int32)), .val (.int (0 : Int32))] [(.int (6 : Int32)), (.int (0 : Int32)), (.ref o1), (.int (0 : Int32)), (.ref ad0)])) rfl (by rw [hml']; rfl) rfl (hb hby by1) (by decide) 0 (by show 2 * 0 + _ ≤ _; exact Nat.le_of_eq rfl) (by decide) (fun T4 h4 L4 X4 e4 N4 Kq4 B4 => ?_)
  have K4 := Keep.trans K0 Kq4 (allS (Or.inl (List.mem_of_getElem? (i := 0) rfl)) all0)
  show ac0 p e below P (T4.setTop (mkF m 25 #[.val (.ref o0), .val (.ref o1), .val (.int (0 : Int32)), .val (.int (0 : Int32))] []))
  refine am1 X4 hx (pc' := 43) (hb hby bz1) ?_
  have hfin : ((fun (v : Option Value) (h : Heap) (L : List Loc) => v = none ∧ Fr n0 L ∧ Keep h0 h [o1] ∧ ao0 Z h o1 16)) none h4 _ := ⟨rfl, N4, K4, B4⟩
  refine at1 X4 hx hlk hP hrt (hb hby ba2) (by decide) (by decide) ?_
  rw [e4]; exact hfin
theorem cp6 (m : MethodId) (o0 : Addr) (o2 : Addr) : entryFrame m #[(.ref o0), (.int (0 : Int32)), (.ref o2)] 3 = mkF m 0 #[.val (.ref o0), .val (.int (0 : Int32)), .val (.ref o2)] [] := by first | (simp [entryFrame, mkF, argsToLocals, Value.category]; done) | rfl
set_option maxRecDepth 65536 in
set_option maxHeartbeats 40000000 in
theorem dn1 (l : Launch) (Z : State) (a0 : Array Value) (hw : ∀ d ∈ tables_1, d.before a0 Z = true) (ws : List Jvm.Cond) (o0 : Addr) (o2 : Addr) (ad0 : Addr) (aq2 : Addr) (aa0 : Int32) (h0 : Heap) (n0 : Nat) (Z0 : n0 ≤ h0.size) (E_o0 : Exa Z h0 o0 z_s2) (E_o2 : Exa Z h0 o2 z_s1) (al0 : Fld Z h0 o0 z_s0 "value" "[B" (.ref ad0)) (ai0 : Fld Z h0 o0 z_s0 "coder" "B" (.int (0 : Int32))) (ag7 : Fld Z h0 o2 z_s1 "value" "[B" (.ref aq2)) (al4 : Fld Z h0 o2 z_s1 "coder" "B" (.int (0 : Int32))) (af0 : Sta Z h0 z_s1 z_s8 "Z" (.int aa0)) (ag5 : ao0 Z h0 aq2 6) (aj0 : ao0 Z h0 ad0 16) (av1 : n0 ≤ ad0) (ae9 : ad0 ≠ o0) (as3 : ad0 ≠ o2) (at2 : ad0 ≠ aq2) (hnz : ¬ (aa0 = (0 : Int32))) :
    as0 l Z (⟨z_s0, "putStringAt", "(ILjava/lang/String;)V"⟩ : MethodName) jdk_68_method_73_code 3 none ws ({ frames := 2, cells := 0, slots := 0, locals := 55 } : Room) #[(.ref o0), (.int (0 : Int32)), (.ref o2)] h0 (fun (v : Option Value) (h : Heap) (L : List Loc) => v = none ∧ Fr n0 L ∧ Keep h0 h [ad0] ∧ ao0 Z h ad0 16) := by
  refine aq0 (plainFor_of_name ap0) ?_
  intro p e s m below meth c s₁ P hx hby hml hrt hlk hown hnm hZ X0 e0 hP
  have N0 := Fr.nil n0
  have K0 := Keep.refl h0 [ad0]
  have hml' : c.maxLocals = 3 := hml
  refine ar0 (cp6 m o0 o2) ?_
  show ac0 p e below P (s₁.setTop (mkF m 0 #[.val (.ref o0), .val (.int (0 : Int32)), .val (.ref o2)] []))
  refine ab0 X0 hx (hb hby bh5) rfl rfl ?_
  refine ab0 X0 hx (hb hby bi5) rfl rfl ?_
  refine a5 X0 hx hZ (y := (⟨z_s0, "inflateIfNeededFor", "(Ljava/lang/String;)V"⟩ : MethodName)) (z := (⟨z_s0, z_s6, "(I)V"⟩ : MethodName)) hown (z_w hw 79 rfl) (z_w hw 80 rfl) rfl (z_w hw 72 rfl) (z_w hw 81 rfl) (z_w hw 36 rfl) (z_w hw 83 rfl) E_o0 (by6 l Z a0 hw [] o0 o2 aa0 h0 n0 (Nat.le_trans Z0 K0.1) E_o0 E_o2 ai0 al4 af0 hnz) 0 e0 hml' (argsL := [(.ref o2)]) (rest := []) (lenOf ae3 rfl) (hb hby bj5) (fun r1 T1 L1 X1 hQ1 => ?_)
  obtain ⟨rfl, Nq1, eq1⟩ := hQ1
  have N1 := Fr.app N0 Nq1
  show ac0 p e below P (T1.setTop (mkF m 5 #[.val (.ref o0), .val (.int (0 : Int32)), .val (.ref o2)] []))
  refine ab0 X1 hx (hb hby bk5) rfl rfl ?_
  refine ab0 X1 hx (hb hby bl5) rfl rfl ?_
  refine ak1 X1 hx hZ hown (host := "") (Or.inl (z_w hw 40 rfl)) Via.refl eq1 al0 (hb hby bm5) (fun T2 X2 e2 => ?_)
  refine ae0 X2 hx (hb hby bb2) rfl ?_
  refine ab0 X2 hx (hb hby bc2) rfl rfl ?_
  refine ak1 X2 hx hZ hown (host := "") (Or.inl (z_w hw 42 rfl)) Via.refl e2 ai0 (hb hby bd2) (fun T3 X3 e3 => ?_)
  refine ag2 X3 hx hZ (y := (⟨z_s1, "getBytes", "([BIB)V"⟩ : MethodName)) (z := (⟨z_s1, "getBytes", "([BIB)V"⟩ : MethodName)) hown (z_w hw 85 rfl) (z_w hw 86 rfl) (notFace_of_selects (args := #[]) (mvT hZ (z_w hw 88 rfl))) (z_w hw 88 rfl) (z_w hw 87 rfl) (z_w hw 16 rfl) (z_w hw 89 rfl) E_o2 (dm1 l Z a0 hw [] o2 ad0 aq2 aa0 h0 n0 (Nat.le_trans Z0 K0.1) E_o2 ag7 al4 af0 ag5 aj0 av1 as3 at2 hnz) 0 e3 hml' (argsL := [(.ref ad0), (.int (0 : Int32)), (.int (0 : Int32))]) (rest := []) (lenOf an7 rfl) (hb hby be2) (fun r4 T4 L4 X4 hQ4 => ?_)
  obtain ⟨rfl, Nq4, Kq4, f0_4⟩ := hQ4
  have N4 := Fr.app N1 Nq4
  have K4 := Keep.trans K0 Kq4 (allS (Or.inl (List.mem_of_getElem? (i := 0) rfl)) all0)
  show ac0 p e below P (T4.setTop (mkF m 18 #[.val (.ref o0), .val (.int (0 : Int32)), .val (.ref o2)] []))
  have hfin : ((fun (v : Option Value) (h : Heap) (L : List Loc) => v = none ∧ Fr n0 L ∧ Keep h0 h [ad0] ∧ ao0 Z h ad0 16)) none T4.heap _ := ⟨rfl, N4, K4, f0_4⟩
  refine at1 X4 hx hlk hP hrt (hb hby bf2) (by decide) (by decide) ?_
  exact hfin
theorem cq6 (m : MethodId) (o0 : Addr) (o1 : Addr) : entryFrame m #[(.ref o0), (.ref o1), (.int (0 : Int32)), (.int (0 : Int32))] 4 = mkF m 0 #[.val (.ref o0), .val (.ref o1), .val (.int (0 : Int32)), .val (.int (0 : Int32))] [] := by first | (simp [entryFrame, mkF, argsToLocals, Value.category]; done) | rfl
set_option maxRecDepth 65536 in
set_option maxHeartbeats 40000000 in
theorem do1 (l : Launch) (Z : State) (a0 : Array Value) (hw : ∀ d ∈ tables_1, d.before a0 Z = true) (ws : List Jvm.Cond) (o0 : Addr) (o1 : Addr) (ad0 : Addr) (aa0 : Int32) (h0 : Heap) (n0 : Nat) (Z0 : n0 ≤ h0.size) (E_o0 : Exa Z h0 o0 z_s1) (al0 : Fld Z h0 o0 z_s1 "value" "[B" (.ref ad0)) (ai0 : Fld Z h0 o0 z_s1 "coder" "B" (.int (0 : Int32))) (af0 : Sta Z h0 z_s1 z_s8 "Z" (.int aa0)) (aj0 : ao0 Z h0 ad0 7) (A_o1 : ao0 Z h0 o1 16) (ai6 : n0 ≤ o1) (bo7 : o1 ≠ o0) (ad9 : o1 ≠ ad0) (hnz : ¬ (aa0 = (0 : Int32))) :
    as0 l Z (⟨z_s1, "getBytes", "([BIB)V"⟩ : MethodName) jdk_42_method_147_code 4 none ws ({ frames := 1, cells := 0, slots := 0, locals := 40 } : Room) #[(.ref o0), (.ref o1), (.int (0 : Int32)), (.int (0 : Int32))] h0 (fun (v : Option Value) (h : Heap) (L : List Loc) => v = none ∧ Fr n0 L ∧ Keep h0 h [o1] ∧ ao0 Z h o1 16) := by
  refine aq0 (plainFor_of_name au1) ?_
  intro p e s m below meth c s₁ P hx hby hml hrt hlk hown hnm hZ X0 e0 hP
  have N0 := Fr.nil n0
  have K0 := Keep.refl h0 [o1]
  have hml' : c.maxLocals = 4 := hml
  refine ar0 (cq6 m o0 o1) ?_
  show ac0 p e below P (s₁.setTop (mkF m 0 #[.val (.ref o0), .val (.ref o1), .val (.int (0 : Int32)), .val (.int (0 : Int32))] []))
  refine ab0 X0 hx (hb hby bb5) rfl rfl ?_
  refine ag2 X0 hx hZ (y := (⟨z_s1, "coder", "()B"⟩ : MethodName)) (z := (⟨z_s1, "coder", "()B"⟩ : MethodName)) hown (z_w hw 60 rfl) (z_w hw 61 rfl) (notFace_of_selects (args := #[]) (mvT hZ (z_w hw 63 rfl))) (z_w hw 63 rfl) (z_w hw 62 rfl) (z_w hw 16 rfl) (z_w hw 64 rfl) E_o0 (ac9 l Z a0 hw [] o0 aa0 h0 n0 (Nat.le_trans Z0 K0.1) ai0 af0 hnz) 0 e0 hml' (argsL := []) (rest := []) (lenOf af5 rfl) (hb hby bc5) (fun r1 T1 L1 X1 hQ1 => ?_)
  obtain ⟨rfl, Nq1, eq1⟩ := hQ1
  have N1 := Fr.app N0 Nq1
  show ac0 p e below P (T1.setTop (mkF m 4 #[.val (.ref o0), .val (.ref o1), .val (.int (0 : Int32)), .val (.int (0 : Int32))] [(.int (0 : Int32))]))
  refine ae0 X1 hx (hb hby bd5) rfl ?_
  refine av0 X1 hx (hb hby be5) (teq (by decide : (0 : Int32) = (0 : Int32))).2 ?_
  refine ab0 X1 hx (hb hby bf5) rfl rfl ?_
  refine ak1 X1 hx hZ hown (host := "") (Or.inl (z_w hw 59 rfl)) Via.refl eq1 al0 (hb hby bg5) (fun T2 X2 e2 => ?_)
  refine am0 X2 hx (hb hby bq1) (z := (0 : Int32)) rfl ?_
  refine ab0 X2 hx (hb hby br1) rfl rfl ?_
  refine ae0 X2 hx (hb hby bs1) rfl ?_
  refine ae0 X2 hx (hb hby bt1) rfl ?_
  refine aa9 X2 hx (hb hby bu1) (z := ((0 : Int32) <<< ((0 : Int32) &&& 31))) rfl ?_
  rw [show ((0 : Int32) <<< ((0 : Int32) &&& 31)) = (0 : Int32) from by decide]
  show ac0 p e below P (T2.setTop (mkF m 17 #[.val (.ref o0), .val (.ref o1), .val (.int (0 : Int32)), .val (.int (0 : Int32))] [(.int (0 : Int32)), (.ref o1), (.int (0 : Int32)), (.ref ad0)]))
  refine ab0 X2 hx (hb hby bv1) rfl rfl ?_
  refine ak1 X2 hx hZ hown (host := "") (Or.inl (z_w hw 59 rfl)) Via.refl e2 al0 (hb hby bw1) (fun T3 X3 e3 => ?_)
  refine ao3 X3 hx hZ e3 aj0 (j := (7 : Int32)) (by decide) (hb hby bx1) ?_
  refine az8 X3 hx hZ hown (z_w hw 90 rfl) (z_w hw 93 rfl) (z_w hw 91 rfl) (z_w hw 92 rfl) e3 aj0 A_o1 (sp := 0) (dp := 0) (n := 7) (by decide) (by decide) (by decide) (by decide) (by decide) N1 ai6 (g := (mkF m 22 #[.val (.ref o0), .val (.ref o1), .val (.int (0 : Int32)), .val (.int (0 : Int32))] [(.int (7 : Int32)), (.int (0 : Int32)), (.ref o1), (.int (0 : Int32)), (.ref ad0)])) rfl (by rw [hml']; rfl) rfl (hb hby by1) (by decide) 0 (by show 2 * 0 + _ ≤ _; exact Nat.le_of_eq rfl) (by decide) (fun T4 h4 L4 X4 e4 N4 Kq4 B4 => ?_)
  have K4 := Keep.trans K0 Kq4 (allS (Or.inl (List.mem_of_getElem? (i := 0) rfl)) all0)
  show ac0 p e below P (T4.setTop (mkF m 25 #[.val (.ref o0), .val (.ref o1), .val (.int (0 : Int32)), .val (.int (0 : Int32))] []))
  refine am1 X4 hx (pc' := 43) (hb hby bz1) ?_
  have hfin : ((fun (v : Option Value) (h : Heap) (L : List Loc) => v = none ∧ Fr n0 L ∧ Keep h0 h [o1] ∧ ao0 Z h o1 16)) none h4 _ := ⟨rfl, N4, K4, B4⟩
  refine at1 X4 hx hlk hP hrt (hb hby ba2) (by decide) (by decide) ?_
  rw [e4]; exact hfin
theorem cr6 (m : MethodId) (o0 : Addr) (o2 : Addr) : entryFrame m #[(.ref o0), (.int (0 : Int32)), (.ref o2)] 3 = mkF m 0 #[.val (.ref o0), .val (.int (0 : Int32)), .val (.ref o2)] [] := by first | (simp [entryFrame, mkF, argsToLocals, Value.category]; done) | rfl
set_option maxRecDepth 65536 in
set_option maxHeartbeats 40000000 in
theorem dp1 (l : Launch) (Z : State) (a0 : Array Value) (hw : ∀ d ∈ tables_1, d.before a0 Z = true) (ws : List Jvm.Cond) (o0 : Addr) (o2 : Addr) (ad0 : Addr) (aq2 : Addr) (aa0 : Int32) (h0 : Heap) (n0 : Nat) (Z0 : n0 ≤ h0.size) (E_o0 : Exa Z h0 o0 z_s2) (E_o2 : Exa Z h0 o2 z_s1) (al0 : Fld Z h0 o0 z_s0 "value" "[B" (.ref ad0)) (ai0 : Fld Z h0 o0 z_s0 "coder" "B" (.int (0 : Int32))) (ag7 : Fld Z h0 o2 z_s1 "value" "[B" (.ref aq2)) (al4 : Fld Z h0 o2 z_s1 "coder" "B" (.int (0 : Int32))) (af0 : Sta Z h0 z_s1 z_s8 "Z" (.int aa0)) (ag5 : ao0 Z h0 aq2 7) (aj0 : ao0 Z h0 ad0 16) (av1 : n0 ≤ ad0) (ae9 : ad0 ≠ o0) (as3 : ad0 ≠ o2) (at2 : ad0 ≠ aq2) (hnz : ¬ (aa0 = (0 : Int32))) :
    as0 l Z (⟨z_s0, "putStringAt", "(ILjava/lang/String;)V"⟩ : MethodName) jdk_68_method_73_code 3 none ws ({ frames := 2, cells := 0, slots := 0, locals := 55 } : Room) #[(.ref o0), (.int (0 : Int32)), (.ref o2)] h0 (fun (v : Option Value) (h : Heap) (L : List Loc) => v = none ∧ Fr n0 L ∧ Keep h0 h [ad0] ∧ ao0 Z h ad0 16) := by
  refine aq0 (plainFor_of_name ap0) ?_
  intro p e s m below meth c s₁ P hx hby hml hrt hlk hown hnm hZ X0 e0 hP
  have N0 := Fr.nil n0
  have K0 := Keep.refl h0 [ad0]
  have hml' : c.maxLocals = 3 := hml
  refine ar0 (cr6 m o0 o2) ?_
  show ac0 p e below P (s₁.setTop (mkF m 0 #[.val (.ref o0), .val (.int (0 : Int32)), .val (.ref o2)] []))
  refine ab0 X0 hx (hb hby bh5) rfl rfl ?_
  refine ab0 X0 hx (hb hby bi5) rfl rfl ?_
  refine a5 X0 hx hZ (y := (⟨z_s0, "inflateIfNeededFor", "(Ljava/lang/String;)V"⟩ : MethodName)) (z := (⟨z_s0, z_s6, "(I)V"⟩ : MethodName)) hown (z_w hw 79 rfl) (z_w hw 80 rfl) rfl (z_w hw 72 rfl) (z_w hw 81 rfl) (z_w hw 36 rfl) (z_w hw 83 rfl) E_o0 (by6 l Z a0 hw [] o0 o2 aa0 h0 n0 (Nat.le_trans Z0 K0.1) E_o0 E_o2 ai0 al4 af0 hnz) 0 e0 hml' (argsL := [(.ref o2)]) (rest := []) (lenOf ae3 rfl) (hb hby bj5) (fun r1 T1 L1 X1 hQ1 => ?_)
  obtain ⟨rfl, Nq1, eq1⟩ := hQ1
  have N1 := Fr.app N0 Nq1
  show ac0 p e below P (T1.setTop (mkF m 5 #[.val (.ref o0), .val (.int (0 : Int32)), .val (.ref o2)] []))
  refine ab0 X1 hx (hb hby bk5) rfl rfl ?_
  refine ab0 X1 hx (hb hby bl5) rfl rfl ?_
  refine ak1 X1 hx hZ hown (host := "") (Or.inl (z_w hw 40 rfl)) Via.refl eq1 al0 (hb hby bm5) (fun T2 X2 e2 => ?_)
  refine ae0 X2 hx (hb hby bb2) rfl ?_
  refine ab0 X2 hx (hb hby bc2) rfl rfl ?_
  refine ak1 X2 hx hZ hown (host := "") (Or.inl (z_w hw 42 rfl)) Via.refl e2 ai0 (hb hby bd2) (fun T3 X3 e3 => ?_)
  refine ag2 X3 hx hZ (y := (⟨z_s1, "getBytes", "([BIB)V"⟩ : MethodName)) (z := (⟨z_s1, "getBytes", "([BIB)V"⟩ : MethodName)) hown (z_w hw 85 rfl) (z_w hw 86 rfl) (notFace_of_selects (args := #[]) (mvT hZ (z_w hw 88 rfl))) (z_w hw 88 rfl) (z_w hw 87 rfl) (z_w hw 16 rfl) (z_w hw 89 rfl) E_o2 (do1 l Z a0 hw [] o2 ad0 aq2 aa0 h0 n0 (Nat.le_trans Z0 K0.1) E_o2 ag7 al4 af0 ag5 aj0 av1 as3 at2 hnz) 0 e3 hml' (argsL := [(.ref ad0), (.int (0 : Int32)), (.int (0 : Int32))]) (rest := []) (lenOf an7 rfl) (hb hby be2) (fun r4 T4 L4 X4 hQ4 => ?_)
  obtain ⟨rfl, Nq4, Kq4, f0_4⟩ := hQ4
  have N4 := Fr.app N1 Nq4
  have K4 := Keep.trans K0 Kq4 (allS (Or.inl (List.mem_of_getElem? (i := 0) rfl)) all0)
  show ac0 p e below P (T4.setTop (mkF m 18 #[.val (.ref o0), .val (.int (0 : Int32)), .val (.ref o2)] []))
  have hfin : ((fun (v : Option Value) (h : Heap) (L : List Loc) => v = none ∧ Fr n0 L ∧ Keep h0 h [ad0] ∧ ao0 Z h ad0 16)) none T4.heap _ := ⟨rfl, N4, K4, f0_4⟩
  refine at1 X4 hx hlk hP hrt (hb hby bf2) (by decide) (by decide) ?_
  exact hfin
theorem ct5 (m : MethodId) (o0 : Addr) (o1 : Addr) : entryFrame m #[(.ref o0), (.ref o1), (.int (5 : Int32)), (.int (0 : Int32))] 4 = mkF m 0 #[.val (.ref o0), .val (.ref o1), .val (.int (5 : Int32)), .val (.int (0 : Int32))] [] := by first | (simp [entryFrame, mkF, argsToLocals, Value.category]; done) | rfl
set_option maxRecDepth 65536 in
set_option maxHeartbeats 40000000 in
theorem cs6 (l : Launch) (Z : State) (a0 : Array Value) (hw : ∀ d ∈ tables_1, d.before a0 Z = true) (ws : List Jvm.Cond) (o0 : Addr) (o1 : Addr) (ad0 : Addr) (aa0 : Int32) (h0 : Heap) (n0 : Nat) (Z0 : n0 ≤ h0.size) (E_o0 : Exa Z h0 o0 z_s1) (al0 : Fld Z h0 o0 z_s1 "value" "[B" (.ref ad0)) (ai0 : Fld Z h0 o0 z_s1 "coder" "B" (.int (0 : Int32))) (af0 : Sta Z h0 z_s1 z_s8 "Z" (.int aa0)) (aj0 : ao0 Z h0 ad0 17) (A_o1 : ao0 Z h0 o1 34) (ai6 : n0 ≤ o1) (bo7 : o1 ≠ o0) (ad9 : o1 ≠ ad0) (hnz : ¬ (aa0 = (0 : Int32))) :
    as0 l Z (⟨z_s1, "getBytes", "([BIB)V"⟩ : MethodName) jdk_42_method_147_code 4 none ws ({ frames := 1, cells := 0, slots := 0, locals := 40 } : Room) #[(.ref o0), (.ref o1), (.int (5 : Int32)), (.int (0 : Int32))] h0 (fun (v : Option Value) (h : Heap) (L : List Loc) => v = none ∧ Fr n0 L ∧ Keep h0 h [o1] ∧ ao0 Z h o1 34) := by
  refine aq0 (plainFor_of_name au1) ?_
  intro p e s m below meth c s₁ P hx hby hml hrt hlk hown hnm hZ X0 e0 hP
  have N0 := Fr.nil n0
  have K0 := Keep.refl h0 [o1]
  have hml' : c.maxLocals = 4 := hml
  refine ar0 (ct5 m o0 o1) ?_
  show ac0 p e below P (s₁.setTop (mkF m 0 #[.val (.ref o0), .val (.ref o1), .val (.int (5 : Int32)), .val (.int (0 : Int32))] []))
  refine ab0 X0 hx (hb hby bb5) rfl rfl ?_
  refine ag2 X0 hx hZ (y := (⟨z_s1, "coder", "()B"⟩ : MethodName)) (z := (⟨z_s1, "coder", "()B"⟩ : MethodName)) hown (z_w hw 60 rfl) (z_w hw 61 rfl) (notFace_of_selects (args := #[]) (mvT hZ (z_w hw 63 rfl))) (z_w hw 63 rfl) (z_w hw 62 rfl) (z_w hw 16 rfl) (z_w hw 64 rfl) E_o0 (ac9 l Z a0 hw [] o0 aa0 h0 n0 (Nat.le_trans Z0 K0.1) ai0 af0 hnz) 0 e0 hml' (argsL := []) (rest := []) (lenOf af5 rfl) (hb hby bc5) (fun r1 T1 L1 X1 hQ1 => ?_)
  obtain ⟨rfl, Nq1, eq1⟩ := hQ1
  have N1 := Fr.app N0 Nq1
  show ac0 p e below P (T1.setTop (mkF m 4 #[.val (.ref o0), .val (.ref o1), .val (.int (5 : Int32)), .val (.int (0 : Int32))] [(.int (0 : Int32))]))
  refine ae0 X1 hx (hb hby bd5) rfl ?_
  refine av0 X1 hx (hb hby be5) (teq (by decide : (0 : Int32) = (0 : Int32))).2 ?_
  refine ab0 X1 hx (hb hby bf5) rfl rfl ?_
  refine ak1 X1 hx hZ hown (host := "") (Or.inl (z_w hw 59 rfl)) Via.refl eq1 al0 (hb hby bg5) (fun T2 X2 e2 => ?_)
  refine am0 X2 hx (hb hby bq1) (z := (0 : Int32)) rfl ?_
  refine ab0 X2 hx (hb hby br1) rfl rfl ?_
  refine ae0 X2 hx (hb hby bs1) rfl ?_
  refine ae0 X2 hx (hb hby bt1) rfl ?_
  refine aa9 X2 hx (hb hby bu1) (z := ((5 : Int32) <<< ((0 : Int32) &&& 31))) rfl ?_
  rw [show ((5 : Int32) <<< ((0 : Int32) &&& 31)) = (5 : Int32) from by decide]
  show ac0 p e below P (T2.setTop (mkF m 17 #[.val (.ref o0), .val (.ref o1), .val (.int (5 : Int32)), .val (.int (0 : Int32))] [(.int (5 : Int32)), (.ref o1), (.int (0 : Int32)), (.ref ad0)]))
  refine ab0 X2 hx (hb hby bv1) rfl rfl ?_
  refine ak1 X2 hx hZ hown (host := "") (Or.inl (z_w hw 59 rfl)) Via.refl e2 al0 (hb hby bw1) (fun T3 X3 e3 => ?_)
  refine ao3 X3 hx hZ e3 aj0 (j := (17 : Int32)) (by decide) (hb hby bx1) ?_
  refine az8 X3 hx hZ hown (z_w hw 90 rfl) (z_w hw 93 rfl) (z_w hw 91 rfl) (z_w hw 92 rfl) e3 aj0 A_o1 (sp := 0) (dp := 5) (n := 17) (by decide) (by decide) (by decide) (by decide) (by decide) N1 ai6 (g := (mkF m 22 #[.val (.ref o0), .val (.ref o1), .val (.int (5 : Int32)), .val (.int (0 : Int32))] [(.int (17 : Int32)), (.int (5 : Int32)), (.ref o1), (.int (0 : Int32)), (.ref ad0)])) rfl (by rw [hml']; rfl) rfl (hb hby by1) (by decide) 0 (by show 2 * 0 + _ ≤ _; exact Nat.le_of_eq rfl) (by decide) (fun T4 h4 L4 X4 e4 N4 Kq4 B4 => ?_)
  have K4 := Keep.trans K0 Kq4 (allS (Or.inl (List.mem_of_getElem? (i := 0) rfl)) all0)
  show ac0 p e below P (T4.setTop (mkF m 25 #[.val (.ref o0), .val (.ref o1), .val (.int (5 : Int32)), .val (.int (0 : Int32))] []))
  refine am1 X4 hx (pc' := 43) (hb hby bz1) ?_
  have hfin : ((fun (v : Option Value) (h : Heap) (L : List Loc) => v = none ∧ Fr n0 L ∧ Keep h0 h [o1] ∧ ao0 Z h o1 34)) none h4 _ := ⟨rfl, N4, K4, B4⟩
  refine at1 X4 hx hlk hP hrt (hb hby ba2) (by decide) (by decide) ?_
  rw [e4]; exact hfin
theorem cu5 (m : MethodId) (o0 : Addr) (o2 : Addr) : entryFrame m #[(.ref o0), (.int (5 : Int32)), (.ref o2)] 3 = mkF m 0 #[.val (.ref o0), .val (.int (5 : Int32)), .val (.ref o2)] [] := by first | (simp [entryFrame, mkF, argsToLocals, Value.category]; done) | rfl
set_option maxRecDepth 65536 in
set_option maxHeartbeats 40000000 in
theorem ct6 (l : Launch) (Z : State) (a0 : Array Value) (hw : ∀ d ∈ tables_1, d.before a0 Z = true) (ws : List Jvm.Cond) (o0 : Addr) (o2 : Addr) (ad0 : Addr) (aq2 : Addr) (aa0 : Int32) (h0 : Heap) (n0 : Nat) (Z0 : n0 ≤ h0.size) (E_o0 : Exa Z h0 o0 z_s2) (E_o2 : Exa Z h0 o2 z_s1) (al0 : Fld Z h0 o0 z_s0 "value" "[B" (.ref ad0)) (ai0 : Fld Z h0 o0 z_s0 "coder" "B" (.int (0 : Int32))) (ag7 : Fld Z h0 o2 z_s1 "value" "[B" (.ref aq2)) (al4 : Fld Z h0 o2 z_s1 "coder" "B" (.int (0 : Int32))) (af0 : Sta Z h0 z_s1 z_s8 "Z" (.int aa0)) (ag5 : ao0 Z h0 aq2 17) (aj0 : ao0 Z h0 ad0 34) (av1 : n0 ≤ ad0) (ae9 : ad0 ≠ o0) (as3 : ad0 ≠ o2) (at2 : ad0 ≠ aq2) (hnz : ¬ (aa0 = (0 : Int32))) :
    as0 l Z (⟨z_s0, "putStringAt", "(ILjava/lang/String;)V"⟩ : MethodName) jdk_68_method_73_code 3 none ws ({ frames := 2, cells := 0, slots := 0, locals := 55 } : Room) #[(.ref o0), (.int (5 : Int32)), (.ref o2)] h0 (fun (v : Option Value) (h : Heap) (L : List Loc) => v = none ∧ Fr n0 L ∧ Keep h0 h [ad0] ∧ ao0 Z h ad0 34) := by
  refine aq0 (plainFor_of_name ap0) ?_
  intro p e s m below meth c s₁ P hx hby hml hrt hlk hown hnm hZ X0 e0 hP
  have N0 := Fr.nil n0
  have K0 := Keep.refl h0 [ad0]
  have hml' : c.maxLocals = 3 := hml
  refine ar0 (cu5 m o0 o2) ?_
  show ac0 p e below P (s₁.setTop (mkF m 0 #[.val (.ref o0), .val (.int (5 : Int32)), .val (.ref o2)] []))
  refine ab0 X0 hx (hb hby bh5) rfl rfl ?_
  refine ab0 X0 hx (hb hby bi5) rfl rfl ?_
  refine a5 X0 hx hZ (y := (⟨z_s0, "inflateIfNeededFor", "(Ljava/lang/String;)V"⟩ : MethodName)) (z := (⟨z_s0, z_s6, "(I)V"⟩ : MethodName)) hown (z_w hw 79 rfl) (z_w hw 80 rfl) rfl (z_w hw 72 rfl) (z_w hw 81 rfl) (z_w hw 36 rfl) (z_w hw 83 rfl) E_o0 (by6 l Z a0 hw [] o0 o2 aa0 h0 n0 (Nat.le_trans Z0 K0.1) E_o0 E_o2 ai0 al4 af0 hnz) 0 e0 hml' (argsL := [(.ref o2)]) (rest := []) (lenOf ae3 rfl) (hb hby bj5) (fun r1 T1 L1 X1 hQ1 => ?_)
  obtain ⟨rfl, Nq1, eq1⟩ := hQ1
  have N1 := Fr.app N0 Nq1
  show ac0 p e below P (T1.setTop (mkF m 5 #[.val (.ref o0), .val (.int (5 : Int32)), .val (.ref o2)] []))
  refine ab0 X1 hx (hb hby bk5) rfl rfl ?_
  refine ab0 X1 hx (hb hby bl5) rfl rfl ?_
  refine ak1 X1 hx hZ hown (host := "") (Or.inl (z_w hw 40 rfl)) Via.refl eq1 al0 (hb hby bm5) (fun T2 X2 e2 => ?_)
  refine ae0 X2 hx (hb hby bb2) rfl ?_
  refine ab0 X2 hx (hb hby bc2) rfl rfl ?_
  refine ak1 X2 hx hZ hown (host := "") (Or.inl (z_w hw 42 rfl)) Via.refl e2 ai0 (hb hby bd2) (fun T3 X3 e3 => ?_)
  refine ag2 X3 hx hZ (y := (⟨z_s1, "getBytes", "([BIB)V"⟩ : MethodName)) (z := (⟨z_s1, "getBytes", "([BIB)V"⟩ : MethodName)) hown (z_w hw 85 rfl) (z_w hw 86 rfl) (notFace_of_selects (args := #[]) (mvT hZ (z_w hw 88 rfl))) (z_w hw 88 rfl) (z_w hw 87 rfl) (z_w hw 16 rfl) (z_w hw 89 rfl) E_o2 (cs6 l Z a0 hw [] o2 ad0 aq2 aa0 h0 n0 (Nat.le_trans Z0 K0.1) E_o2 ag7 al4 af0 ag5 aj0 av1 as3 at2 hnz) 0 e3 hml' (argsL := [(.ref ad0), (.int (5 : Int32)), (.int (0 : Int32))]) (rest := []) (lenOf an7 rfl) (hb hby be2) (fun r4 T4 L4 X4 hQ4 => ?_)
  obtain ⟨rfl, Nq4, Kq4, f0_4⟩ := hQ4
  have N4 := Fr.app N1 Nq4
  have K4 := Keep.trans K0 Kq4 (allS (Or.inl (List.mem_of_getElem? (i := 0) rfl)) all0)
  show ac0 p e below P (T4.setTop (mkF m 18 #[.val (.ref o0), .val (.int (5 : Int32)), .val (.ref o2)] []))
  have hfin : ((fun (v : Option Value) (h : Heap) (L : List Loc) => v = none ∧ Fr n0 L ∧ Keep h0 h [ad0] ∧ ao0 Z h ad0 34)) none T4.heap _ := ⟨rfl, N4, K4, f0_4⟩
  refine at1 X4 hx hlk hP hrt (hb hby bf2) (by decide) (by decide) ?_
  exact hfin
theorem cv5 (m : MethodId) (o0 : Addr) (o1 : Addr) : entryFrame m #[(.ref o0), (.ref o1), (.int (6 : Int32)), (.int (0 : Int32))] 4 = mkF m 0 #[.val (.ref o0), .val (.ref o1), .val (.int (6 : Int32)), .val (.int (0 : Int32))] [] := by first | (simp [entryFrame, mkF, argsToLocals, Value.category]; done) | rfl
set_option maxRecDepth 65536 in
set_option maxHeartbeats 40000000 in
theorem cu6 (l : Launch) (Z : State) (a0 : Array Value) (hw : ∀ d ∈ tables_1, d.before a0 Z = true) (ws : List Jvm.Cond) (o0 : Addr) (o1 : Addr) (ad0 : Addr) (aa0 : Int32) (h0 : Heap) (n0 : Nat) (Z0 : n0 ≤ h0.size) (E_o0 : Exa Z h0 o0 z_s1) (al0 : Fld Z h0 o0 z_s1 "value" "[B" (.ref ad0)) (ai0 : Fld Z h0 o0 z_s1 "coder" "B" (.int (0 : Int32))) (af0 : Sta Z h0 z_s1 z_s8 "Z" (.int aa0)) (aj0 : ao0 Z h0 ad0 17) (A_o1 : ao0 Z h0 o1 34) (ai6 : n0 ≤ o1) (bo7 : o1 ≠ o0) (ad9 : o1 ≠ ad0) (hnz : ¬ (aa0 = (0 : Int32))) :
    as0 l Z (⟨z_s1, "getBytes", "([BIB)V"⟩ : MethodName) jdk_42_method_147_code 4 none ws ({ frames := 1, cells := 0, slots := 0, locals := 40 } : Room) #[(.ref o0), (.ref o1), (.int (6 : Int32)), (.int (0 : Int32))] h0 (fun (v : Option Value) (h : Heap) (L : List Loc) => v = none ∧ Fr n0 L ∧ Keep h0 h [o1] ∧ ao0 Z h o1 34) := by
  refine aq0 (plainFor_of_name au1) ?_
  intro p e s m below meth c s₁ P hx hby hml hrt hlk hown hnm hZ X0 e0 hP
  have N0 := Fr.nil n0
  have K0 := Keep.refl h0 [o1]
  have hml' : c.maxLocals = 4 := hml
  refine ar0 (cv5 m o0 o1) ?_
  show ac0 p e below P (s₁.setTop (mkF m 0 #[.val (.ref o0), .val (.ref o1), .val (.int (6 : Int32)), .val (.int (0 : Int32))] []))
  refine ab0 X0 hx (hb hby bb5) rfl rfl ?_
  refine ag2 X0 hx hZ (y := (⟨z_s1, "coder", "()B"⟩ : MethodName)) (z := (⟨z_s1, "coder", "()B"⟩ : MethodName)) hown (z_w hw 60 rfl) (z_w hw 61 rfl) (notFace_of_selects (args := #[]) (mvT hZ (z_w hw 63 rfl))) (z_w hw 63 rfl) (z_w hw 62 rfl) (z_w hw 16 rfl) (z_w hw 64 rfl) E_o0 (ac9 l Z a0 hw [] o0 aa0 h0 n0 (Nat.le_trans Z0 K0.1) ai0 af0 hnz) 0 e0 hml' (argsL := []) (rest := []) (lenOf af5 rfl) (hb hby bc5) (fun r1 T1 L1 X1 hQ1 => ?_)
  obtain ⟨rfl, Nq1, eq1⟩ := hQ1
  have N1 := Fr.app N0 Nq1
  show ac0 p e below P (T1.setTop (mkF m 4 #[.val (.ref o0), .val (.ref o1), .val (.int (6 : Int32)), .val (.int (0 : Int32))] [(.int (0 : Int32))]))
  refine ae0 X1 hx (hb hby bd5) rfl ?_
  refine av0 X1 hx (hb hby be5) (teq (by decide : (0 : Int32) = (0 : Int32))).2 ?_
  refine ab0 X1 hx (hb hby bf5) rfl rfl ?_
  refine ak1 X1 hx hZ hown (host := "") (Or.inl (z_w hw 59 rfl)) Via.refl eq1 al0 (hb hby bg5) (fun T2 X2 e2 => ?_)
  refine am0 X2 hx (hb hby bq1) (z := (0 : Int32)) rfl ?_
  refine ab0 X2 hx (hb hby br1) rfl rfl ?_
  refine ae0 X2 hx (hb hby bs1) rfl ?_
  refine ae0 X2 hx (hb hby bt1) rfl ?_
  refine aa9 X2 hx (hb hby bu1) (z := ((6 : Int32) <<< ((0 : Int32) &&& 31))) rfl ?_
  rw [show ((6 : Int32) <<< ((0 : Int32) &&& 31)) = (6 : Int32) from by decide]
  show ac0 p e below P (T2.setTop (mkF m 17 #[.val (.ref o0), .val (.ref o1), .val (.int (6 : Int32)), .val (.int (0 : Int32))] [(.int (6 : Int32)), (.ref o1), (.int (0 : Int32)), (.ref ad0)]))
  refine ab0 X2 hx (hb hby bv1) rfl rfl ?_
  refine ak1 X2 hx hZ hown (host := "") (Or.inl (z_w hw 59 rfl)) Via.refl e2 al0 (hb hby bw1) (fun T3 X3 e3 => ?_)
  refine ao3 X3 hx hZ e3 aj0 (j := (17 : Int32)) (by decide) (hb hby bx1) ?_
  refine az8 X3 hx hZ hown (z_w hw 90 rfl) (z_w hw 93 rfl) (z_w hw 91 rfl) (z_w hw 92 rfl) e3 aj0 A_o1 (sp := 0) (dp := 6) (n := 17) (by decide) (by decide) (by decide) (by decide) (by decide) N1 ai6 (g := (mkF m 22 #[.val (.ref o0), .val (.ref o1), .val (.int (6 : Int32)), .val (.int (0 : Int32))] [(.int (17 : Int32)), (.int (6 : Int32)), (.ref o1), (.int (0 : Int32)), (.ref ad0)])) rfl (by rw [hml']; rfl) rfl (hb hby by1) (by decide) 0 (by show 2 * 0 + _ ≤ _; exact Nat.le_of_eq rfl) (by decide) (fun T4 h4 L4 X4 e4 N4 Kq4 B4 => ?_)
  have K4 := Keep.trans K0 Kq4 (allS (Or.inl (List.mem_of_getElem? (i := 0) rfl)) all0)
  show ac0 p e below P (T4.setTop (mkF m 25 #[.val (.ref o0), .val (.ref o1), .val (.int (6 : Int32)), .val (.int (0 : Int32))] []))
  refine am1 X4 hx (pc' := 43) (hb hby bz1) ?_
  have hfin : ((fun (v : Option Value) (h : Heap) (L : List Loc) => v = none ∧ Fr n0 L ∧ Keep h0 h [o1] ∧ ao0 Z h o1 34)) none h4 _ := ⟨rfl, N4, K4, B4⟩
  refine at1 X4 hx hlk hP hrt (hb hby ba2) (by decide) (by decide) ?_
  rw [e4]; exact hfin
theorem cw5 (m : MethodId) (o0 : Addr) (o2 : Addr) : entryFrame m #[(.ref o0), (.int (6 : Int32)), (.ref o2)] 3 = mkF m 0 #[.val (.ref o0), .val (.int (6 : Int32)), .val (.ref o2)] [] := by first | (simp [entryFrame, mkF, argsToLocals, Value.category]; done) | rfl
set_option maxRecDepth 65536 in
set_option maxHeartbeats 40000000 in
theorem cv6 (l : Launch) (Z : State) (a0 : Array Value) (hw : ∀ d ∈ tables_1, d.before a0 Z = true) (ws : List Jvm.Cond) (o0 : Addr) (o2 : Addr) (ad0 : Addr) (aq2 : Addr) (aa0 : Int32) (h0 : Heap) (n0 : Nat) (Z0 : n0 ≤ h0.size) (E_o0 : Exa Z h0 o0 z_s2) (E_o2 : Exa Z h0 o2 z_s1) (al0 : Fld Z h0 o0 z_s0 "value" "[B" (.ref ad0)) (ai0 : Fld Z h0 o0 z_s0 "coder" "B" (.int (0 : Int32))) (ag7 : Fld Z h0 o2 z_s1 "value" "[B" (.ref aq2)) (al4 : Fld Z h0 o2 z_s1 "coder" "B" (.int (0 : Int32))) (af0 : Sta Z h0 z_s1 z_s8 "Z" (.int aa0)) (ag5 : ao0 Z h0 aq2 17) (aj0 : ao0 Z h0 ad0 34) (av1 : n0 ≤ ad0) (ae9 : ad0 ≠ o0) (as3 : ad0 ≠ o2) (at2 : ad0 ≠ aq2) (hnz : ¬ (aa0 = (0 : Int32))) :
    as0 l Z (⟨z_s0, "putStringAt", "(ILjava/lang/String;)V"⟩ : MethodName) jdk_68_method_73_code 3 none ws ({ frames := 2, cells := 0, slots := 0, locals := 55 } : Room) #[(.ref o0), (.int (6 : Int32)), (.ref o2)] h0 (fun (v : Option Value) (h : Heap) (L : List Loc) => v = none ∧ Fr n0 L ∧ Keep h0 h [ad0] ∧ ao0 Z h ad0 34) := by
  refine aq0 (plainFor_of_name ap0) ?_
  intro p e s m below meth c s₁ P hx hby hml hrt hlk hown hnm hZ X0 e0 hP
  have N0 := Fr.nil n0
  have K0 := Keep.refl h0 [ad0]
  have hml' : c.maxLocals = 3 := hml
  refine ar0 (cw5 m o0 o2) ?_
  show ac0 p e below P (s₁.setTop (mkF m 0 #[.val (.ref o0), .val (.int (6 : Int32)), .val (.ref o2)] []))
  refine ab0 X0 hx (hb hby bh5) rfl rfl ?_
  refine ab0 X0 hx (hb hby bi5) rfl rfl ?_
  refine a5 X0 hx hZ (y := (⟨z_s0, "inflateIfNeededFor", "(Ljava/lang/String;)V"⟩ : MethodName)) (z := (⟨z_s0, z_s6, "(I)V"⟩ : MethodName)) hown (z_w hw 79 rfl) (z_w hw 80 rfl) rfl (z_w hw 72 rfl) (z_w hw 81 rfl) (z_w hw 36 rfl) (z_w hw 83 rfl) E_o0 (by6 l Z a0 hw [] o0 o2 aa0 h0 n0 (Nat.le_trans Z0 K0.1) E_o0 E_o2 ai0 al4 af0 hnz) 0 e0 hml' (argsL := [(.ref o2)]) (rest := []) (lenOf ae3 rfl) (hb hby bj5) (fun r1 T1 L1 X1 hQ1 => ?_)
  obtain ⟨rfl, Nq1, eq1⟩ := hQ1
  have N1 := Fr.app N0 Nq1
  show ac0 p e below P (T1.setTop (mkF m 5 #[.val (.ref o0), .val (.int (6 : Int32)), .val (.ref o2)] []))
  refine ab0 X1 hx (hb hby bk5) rfl rfl ?_
  refine ab0 X1 hx (hb hby bl5) rfl rfl ?_
  refine ak1 X1 hx hZ hown (host := "") (Or.inl (z_w hw 40 rfl)) Via.refl eq1 al0 (hb hby bm5) (fun T2 X2 e2 => ?_)
  refine ae0 X2 hx (hb hby bb2) rfl ?_
  refine ab0 X2 hx (hb hby bc2) rfl rfl ?_
  refine ak1 X2 hx hZ hown (host := "") (Or.inl (z_w hw 42 rfl)) Via.refl e2 ai0 (hb hby bd2) (fun T3 X3 e3 => ?_)
  refine ag2 X3 hx hZ (y := (⟨z_s1, "getBytes", "([BIB)V"⟩ : MethodName)) (z := (⟨z_s1, "getBytes", "([BIB)V"⟩ : MethodName)) hown (z_w hw 85 rfl) (z_w hw 86 rfl) (notFace_of_selects (args := #[]) (mvT hZ (z_w hw 88 rfl))) (z_w hw 88 rfl) (z_w hw 87 rfl) (z_w hw 16 rfl) (z_w hw 89 rfl) E_o2 (cu6 l Z a0 hw [] o2 ad0 aq2 aa0 h0 n0 (Nat.le_trans Z0 K0.1) E_o2 ag7 al4 af0 ag5 aj0 av1 as3 at2 hnz) 0 e3 hml' (argsL := [(.ref ad0), (.int (6 : Int32)), (.int (0 : Int32))]) (rest := []) (lenOf an7 rfl) (hb hby be2) (fun r4 T4 L4 X4 hQ4 => ?_)
  obtain ⟨rfl, Nq4, Kq4, f0_4⟩ := hQ4
  have N4 := Fr.app N1 Nq4
  have K4 := Keep.trans K0 Kq4 (allS (Or.inl (List.mem_of_getElem? (i := 0) rfl)) all0)
  show ac0 p e below P (T4.setTop (mkF m 18 #[.val (.ref o0), .val (.int (6 : Int32)), .val (.ref o2)] []))
  have hfin : ((fun (v : Option Value) (h : Heap) (L : List Loc) => v = none ∧ Fr n0 L ∧ Keep h0 h [ad0] ∧ ao0 Z h ad0 34)) none T4.heap _ := ⟨rfl, N4, K4, f0_4⟩
  refine at1 X4 hx hlk hP hrt (hb hby bf2) (by decide) (by decide) ?_
  exact hfin
theorem cx5 (m : MethodId) (o0 : Addr) (o1 : Addr) : entryFrame m #[(.ref o0), (.ref o1), (.int (7 : Int32)), (.int (0 : Int32))] 4 = mkF m 0 #[.val (.ref o0), .val (.ref o1), .val (.int (7 : Int32)), .val (.int (0 : Int32))] [] := by first | (simp [entryFrame, mkF, argsToLocals, Value.category]; done) | rfl
set_option maxRecDepth 65536 in
set_option maxHeartbeats 40000000 in
theorem cw6 (l : Launch) (Z : State) (a0 : Array Value) (hw : ∀ d ∈ tables_1, d.before a0 Z = true) (ws : List Jvm.Cond) (o0 : Addr) (o1 : Addr) (ad0 : Addr) (aa0 : Int32) (h0 : Heap) (n0 : Nat) (Z0 : n0 ≤ h0.size) (E_o0 : Exa Z h0 o0 z_s1) (al0 : Fld Z h0 o0 z_s1 "value" "[B" (.ref ad0)) (ai0 : Fld Z h0 o0 z_s1 "coder" "B" (.int (0 : Int32))) (af0 : Sta Z h0 z_s1 z_s8 "Z" (.int aa0)) (aj0 : ao0 Z h0 ad0 17) (A_o1 : ao0 Z h0 o1 34) (ai6 : n0 ≤ o1) (bo7 : o1 ≠ o0) (ad9 : o1 ≠ ad0) (hnz : ¬ (aa0 = (0 : Int32))) :
    as0 l Z (⟨z_s1, "getBytes", "([BIB)V"⟩ : MethodName) jdk_42_method_147_code 4 none ws ({ frames := 1, cells := 0, slots := 0, locals := 40 } : Room) #[(.ref o0), (.ref o1), (.int (7 : Int32)), (.int (0 : Int32))] h0 (fun (v : Option Value) (h : Heap) (L : List Loc) => v = none ∧ Fr n0 L ∧ Keep h0 h [o1] ∧ ao0 Z h o1 34) := by
  refine aq0 (plainFor_of_name au1) ?_
  intro p e s m below meth c s₁ P hx hby hml hrt hlk hown hnm hZ X0 e0 hP
  have N0 := Fr.nil n0
  have K0 := Keep.refl h0 [o1]
  have hml' : c.maxLocals = 4 := hml
  refine ar0 (cx5 m o0 o1) ?_
  show ac0 p e below P (s₁.setTop (mkF m 0 #[.val (.ref o0), .val (.ref o1), .val (.int (7 : Int32)), .val (.int (0 : Int32))] []))
  refine ab0 X0 hx (hb hby bb5) rfl rfl ?_
  refine ag2 X0 hx hZ (y := (⟨z_s1, "coder", "()B"⟩ : MethodName)) (z := (⟨z_s1, "coder", "()B"⟩ : MethodName)) hown (z_w hw 60 rfl) (z_w hw 61 rfl) (notFace_of_selects (args := #[]) (mvT hZ (z_w hw 63 rfl))) (z_w hw 63 rfl) (z_w hw 62 rfl) (z_w hw 16 rfl) (z_w hw 64 rfl) E_o0 (ac9 l Z a0 hw [] o0 aa0 h0 n0 (Nat.le_trans Z0 K0.1) ai0 af0 hnz) 0 e0 hml' (argsL := []) (rest := []) (lenOf af5 rfl) (hb hby bc5) (fun r1 T1 L1 X1 hQ1 => ?_)
  obtain ⟨rfl, Nq1, eq1⟩ := hQ1
  have N1 := Fr.app N0 Nq1
  show ac0 p e below P (T1.setTop (mkF m 4 #[.val (.ref o0), .val (.ref o1), .val (.int (7 : Int32)), .val (.int (0 : Int32))] [(.int (0 : Int32))]))
  refine ae0 X1 hx (hb hby bd5) rfl ?_
  refine av0 X1 hx (hb hby be5) (teq (by decide : (0 : Int32) = (0 : Int32))).2 ?_
  refine ab0 X1 hx (hb hby bf5) rfl rfl ?_
  refine ak1 X1 hx hZ hown (host := "") (Or.inl (z_w hw 59 rfl)) Via.refl eq1 al0 (hb hby bg5) (fun T2 X2 e2 => ?_)
  refine am0 X2 hx (hb hby bq1) (z := (0 : Int32)) rfl ?_
  refine ab0 X2 hx (hb hby br1) rfl rfl ?_
  refine ae0 X2 hx (hb hby bs1) rfl ?_
  refine ae0 X2 hx (hb hby bt1) rfl ?_
  refine aa9 X2 hx (hb hby bu1) (z := ((7 : Int32) <<< ((0 : Int32) &&& 31))) rfl ?_
  rw [show ((7 : Int32) <<< ((0 : Int32) &&& 31)) = (7 : Int32) from by decide]
  show ac0 p e below P (T2.setTop (mkF m 17 #[.val (.ref o0), .val (.ref o1), .val (.int (7 : Int32)), .val (.int (0 : Int32))] [(.int (7 : Int32)), (.ref o1), (.int (0 : Int32)), (.ref ad0)]))
  refine ab0 X2 hx (hb hby bv1) rfl rfl ?_
  refine ak1 X2 hx hZ hown (host := "") (Or.inl (z_w hw 59 rfl)) Via.refl e2 al0 (hb hby bw1) (fun T3 X3 e3 => ?_)
  refine ao3 X3 hx hZ e3 aj0 (j := (17 : Int32)) (by decide) (hb hby bx1) ?_
  refine az8 X3 hx hZ hown (z_w hw 90 rfl) (z_w hw 93 rfl) (z_w hw 91 rfl) (z_w hw 92 rfl) e3 aj0 A_o1 (sp := 0) (dp := 7) (n := 17) (by decide) (by decide) (by decide) (by decide) (by decide) N1 ai6 (g := (mkF m 22 #[.val (.ref o0), .val (.ref o1), .val (.int (7 : Int32)), .val (.int (0 : Int32))] [(.int (17 : Int32)), (.int (7 : Int32)), (.ref o1), (.int (0 : Int32)), (.ref ad0)])) rfl (by rw [hml']; rfl) rfl (hb hby by1) (by decide) 0 (by show 2 * 0 + _ ≤ _; exact Nat.le_of_eq rfl) (by decide) (fun T4 h4 L4 X4 e4 N4 Kq4 B4 => ?_)
  have K4 := Keep.trans K0 Kq4 (allS (Or.inl (List.mem_of_getElem? (i := 0) rfl)) all0)
  show ac0 p e below P (T4.setTop (mkF m 25 #[.val (.ref o0), .val (.ref o1), .val (.int (7 : Int32)), .val (.int (0 : Int32))] []))
  refine am1 X4 hx (pc' := 43) (hb hby bz1) ?_
  have hfin : ((fun (v : Option Value) (h : Heap) (L : List Loc) => v = none ∧ Fr n0 L ∧ Keep h0 h [o1] ∧ ao0 Z h o1 34)) none h4 _ := ⟨rfl, N4, K4, B4⟩
  refine at1 X4 hx hlk hP hrt (hb hby ba2) (by decide) (by decide) ?_
  rw [e4]; exact hfin
theorem cy5 (m : MethodId) (o0 : Addr) (o2 : Addr) : entryFrame m #[(.ref o0), (.int (7 : Int32)), (.ref o2)] 3 = mkF m 0 #[.val (.ref o0), .val (.int (7 : Int32)), .val (.ref o2)] [] := by first | (simp [entryFrame, mkF, argsToLocals, Value.category]; done) | rfl
set_option maxRecDepth 65536 in
set_option maxHeartbeats 40000000 in
theorem cx6 (l : Launch) (Z : State) (a0 : Array Value) (hw : ∀ d ∈ tables_1, d.before a0 Z = true) (ws : List Jvm.Cond) (o0 : Addr) (o2 : Addr) (ad0 : Addr) (aq2 : Addr) (aa0 : Int32) (h0 : Heap) (n0 : Nat) (Z0 : n0 ≤ h0.size) (E_o0 : Exa Z h0 o0 z_s2) (E_o2 : Exa Z h0 o2 z_s1) (al0 : Fld Z h0 o0 z_s0 "value" "[B" (.ref ad0)) (ai0 : Fld Z h0 o0 z_s0 "coder" "B" (.int (0 : Int32))) (ag7 : Fld Z h0 o2 z_s1 "value" "[B" (.ref aq2)) (al4 : Fld Z h0 o2 z_s1 "coder" "B" (.int (0 : Int32))) (af0 : Sta Z h0 z_s1 z_s8 "Z" (.int aa0)) (ag5 : ao0 Z h0 aq2 17) (aj0 : ao0 Z h0 ad0 34) (av1 : n0 ≤ ad0) (ae9 : ad0 ≠ o0) (as3 : ad0 ≠ o2) (at2 : ad0 ≠ aq2) (hnz : ¬ (aa0 = (0 : Int32))) :
    as0 l Z (⟨z_s0, "putStringAt", "(ILjava/lang/String;)V"⟩ : MethodName) jdk_68_method_73_code 3 none ws ({ frames := 2, cells := 0, slots := 0, locals := 55 } : Room) #[(.ref o0), (.int (7 : Int32)), (.ref o2)] h0 (fun (v : Option Value) (h : Heap) (L : List Loc) => v = none ∧ Fr n0 L ∧ Keep h0 h [ad0] ∧ ao0 Z h ad0 34) := by
  refine aq0 (plainFor_of_name ap0) ?_
  intro p e s m below meth c s₁ P hx hby hml hrt hlk hown hnm hZ X0 e0 hP
  have N0 := Fr.nil n0
  have K0 := Keep.refl h0 [ad0]
  have hml' : c.maxLocals = 3 := hml
  refine ar0 (cy5 m o0 o2) ?_
  show ac0 p e below P (s₁.setTop (mkF m 0 #[.val (.ref o0), .val (.int (7 : Int32)), .val (.ref o2)] []))
  refine ab0 X0 hx (hb hby bh5) rfl rfl ?_
  refine ab0 X0 hx (hb hby bi5) rfl rfl ?_
  refine a5 X0 hx hZ (y := (⟨z_s0, "inflateIfNeededFor", "(Ljava/lang/String;)V"⟩ : MethodName)) (z := (⟨z_s0, z_s6, "(I)V"⟩ : MethodName)) hown (z_w hw 79 rfl) (z_w hw 80 rfl) rfl (z_w hw 72 rfl) (z_w hw 81 rfl) (z_w hw 36 rfl) (z_w hw 83 rfl) E_o0 (by6 l Z a0 hw [] o0 o2 aa0 h0 n0 (Nat.le_trans Z0 K0.1) E_o0 E_o2 ai0 al4 af0 hnz) 0 e0 hml' (argsL := [(.ref o2)]) (rest := []) (lenOf ae3 rfl) (hb hby bj5) (fun r1 T1 L1 X1 hQ1 => ?_)
  obtain ⟨rfl, Nq1, eq1⟩ := hQ1
  have N1 := Fr.app N0 Nq1
  show ac0 p e below P (T1.setTop (mkF m 5 #[.val (.ref o0), .val (.int (7 : Int32)), .val (.ref o2)] []))
  refine ab0 X1 hx (hb hby bk5) rfl rfl ?_
  refine ab0 X1 hx (hb hby bl5) rfl rfl ?_
  refine ak1 X1 hx hZ hown (host := "") (Or.inl (z_w hw 40 rfl)) Via.refl eq1 al0 (hb hby bm5) (fun T2 X2 e2 => ?_)
  refine ae0 X2 hx (hb hby bb2) rfl ?_
  refine ab0 X2 hx (hb hby bc2) rfl rfl ?_
  refine ak1 X2 hx hZ hown (host := "") (Or.inl (z_w hw 42 rfl)) Via.refl e2 ai0 (hb hby bd2) (fun T3 X3 e3 => ?_)
  refine ag2 X3 hx hZ (y := (⟨z_s1, "getBytes", "([BIB)V"⟩ : MethodName)) (z := (⟨z_s1, "getBytes", "([BIB)V"⟩ : MethodName)) hown (z_w hw 85 rfl) (z_w hw 86 rfl) (notFace_of_selects (args := #[]) (mvT hZ (z_w hw 88 rfl))) (z_w hw 88 rfl) (z_w hw 87 rfl) (z_w hw 16 rfl) (z_w hw 89 rfl) E_o2 (cw6 l Z a0 hw [] o2 ad0 aq2 aa0 h0 n0 (Nat.le_trans Z0 K0.1) E_o2 ag7 al4 af0 ag5 aj0 av1 as3 at2 hnz) 0 e3 hml' (argsL := [(.ref ad0), (.int (7 : Int32)), (.int (0 : Int32))]) (rest := []) (lenOf an7 rfl) (hb hby be2) (fun r4 T4 L4 X4 hQ4 => ?_)
  obtain ⟨rfl, Nq4, Kq4, f0_4⟩ := hQ4
  have N4 := Fr.app N1 Nq4
  have K4 := Keep.trans K0 Kq4 (allS (Or.inl (List.mem_of_getElem? (i := 0) rfl)) all0)
  show ac0 p e below P (T4.setTop (mkF m 18 #[.val (.ref o0), .val (.int (7 : Int32)), .val (.ref o2)] []))
  have hfin : ((fun (v : Option Value) (h : Heap) (L : List Loc) => v = none ∧ Fr n0 L ∧ Keep h0 h [ad0] ∧ ao0 Z h ad0 34)) none T4.heap _ := ⟨rfl, N4, K4, f0_4⟩
  refine at1 X4 hx hlk hP hrt (hb hby bf2) (by decide) (by decide) ?_
  exact hfin
theorem bg2 : decode jdk_68_method_9_code 0 = .ok (.aload_n 0, 1) := by decide +kernel
theorem bh2 : decode jdk_68_method_9_code 1 = .ok (.getfield 15, 3) := by decide +kernel
theorem bi2 : decode jdk_68_method_9_code 4 = .ok (.arraylength, 1) := by decide +kernel
theorem bj2 : decode jdk_68_method_9_code 5 = .ok (.aload_n 0, 1) := by decide +kernel
theorem bk2 : decode jdk_68_method_9_code 6 = .ok (.getfield 22, 3) := by decide +kernel
theorem bl2 : decode jdk_68_method_9_code 9 = .ok (.ishr, 1) := by decide +kernel
theorem as9 : decode jdk_68_method_9_code 10 = .ok (.istore_n 2, 1) := by decide +kernel
theorem at9 : decode jdk_68_method_9_code 11 = .ok (.iload_n 1, 1) := by decide +kernel
theorem au9 : decode jdk_68_method_9_code 12 = .ok (.iload_n 2, 1) := by decide +kernel
theorem av9 : decode jdk_68_method_9_code 13 = .ok (.isub, 1) := by decide +kernel
theorem aw9 : decode jdk_68_method_9_code 14 = .ok (.ifCond .le 24, 3) := by decide +kernel
theorem ax9 : decode jdk_68_method_9_code 38 = .ok (.return_, 1) := by decide +kernel
theorem dc7 (m : MethodId) (o0 : Addr) : entryFrame m #[(.ref o0), (.int (5 : Int32))] 3 = mkF m 0 #[.val (.ref o0), .val (.int (5 : Int32)), .unset] [] := by first | (simp [entryFrame, mkF, argsToLocals, Value.category]; done) | rfl
set_option maxRecDepth 65536 in
set_option maxHeartbeats 40000000 in
theorem ep0 (l : Launch) (Z : State) (a0 : Array Value) (hw : ∀ d ∈ tables_1, d.before a0 Z = true) (ws : List Jvm.Cond) (o0 : Addr) (ad0 : Addr) (h0 : Heap) (n0 : Nat) (Z0 : n0 ≤ h0.size) (E_o0 : Exa Z h0 o0 z_s2) (al0 : Fld Z h0 o0 z_s0 "value" "[B" (.ref ad0)) (ai0 : Fld Z h0 o0 z_s0 "coder" "B" (.int (0 : Int32))) (aj0 : ao0 Z h0 ad0 16) :
    as0 l Z (⟨z_s0, z_s6, "(I)V"⟩ : MethodName) jdk_68_method_9_code 3 none ws ({ frames := 0, cells := 0, slots := 0, locals := 0 } : Room) #[(.ref o0), (.int (5 : Int32))] h0 (fun (v : Option Value) (h : Heap) (L : List Loc) => v = none ∧ Fr n0 L ∧ h = h0) := by
  refine aq0 (plainFor_of_name ap0) ?_
  intro p e s m below meth c s₁ P hx hby hml hrt hlk hown hnm hZ X0 e0 hP
  have N0 := Fr.nil n0
  have K0 := Keep.refl h0 []
  have hml' : c.maxLocals = 3 := hml
  refine ar0 (dc7 m o0) ?_
  show ac0 p e below P (s₁.setTop (mkF m 0 #[.val (.ref o0), .val (.int (5 : Int32)), .unset] []))
  refine ab0 X0 hx (hb hby bg2) rfl rfl ?_
  refine ak1 X0 hx hZ hown (host := "") (Or.inl (z_w hw 40 rfl)) Via.refl e0 al0 (hb hby bh2) (fun T1 X1 e1 => ?_)
  refine ao3 X1 hx hZ e1 aj0 (j := (16 : Int32)) (by decide) (hb hby bi2) ?_
  refine ab0 X1 hx (hb hby bj2) rfl rfl ?_
  refine ak1 X1 hx hZ hown (host := "") (Or.inl (z_w hw 42 rfl)) Via.refl e1 ai0 (hb hby bk2) (fun T2 X2 e2 => ?_)
  refine al8 X2 hx (hb hby bl2) (z := ((16 : Int32) >>> ((0 : Int32) &&& 31))) rfl ?_
  rw [show ((16 : Int32) >>> ((0 : Int32) &&& 31)) = (16 : Int32) from by decide]
  show ac0 p e below P (T2.setTop (mkF m 10 #[.val (.ref o0), .val (.int (5 : Int32)), .unset] [(.int (16 : Int32))]))
  refine aj2 X2 hx (hb hby as9) (l' := #[.val (.ref o0), .val (.int (5 : Int32)), .val (.int (16 : Int32))]) rfl ?_
  refine ae0 X2 hx (hb hby at9) rfl ?_
  refine ae0 X2 hx (hb hby au9) rfl ?_
  refine ar2 X2 hx (hb hby av9) (z := (-11 : Int32)) rfl ?_
  refine ak4 X2 hx (pc' := 38) (hb hby aw9) ((if0 _ _).trans (flt (by decide : ¬ ((0 : Int32) < (-11 : Int32)))).2.2.2) ?_
  exact at1 X2 hx hlk hP hrt (hb hby ax9) (by decide) (by decide) ⟨rfl, N0, e2⟩
theorem dd7 (m : MethodId) (o0 : Addr) : entryFrame m #[(.ref o0), (.int (6 : Int32))] 3 = mkF m 0 #[.val (.ref o0), .val (.int (6 : Int32)), .unset] [] := by first | (simp [entryFrame, mkF, argsToLocals, Value.category]; done) | rfl
set_option maxRecDepth 65536 in
set_option maxHeartbeats 40000000 in
theorem eq0 (l : Launch) (Z : State) (a0 : Array Value) (hw : ∀ d ∈ tables_1, d.before a0 Z = true) (ws : List Jvm.Cond) (o0 : Addr) (ad0 : Addr) (h0 : Heap) (n0 : Nat) (Z0 : n0 ≤ h0.size) (E_o0 : Exa Z h0 o0 z_s2) (al0 : Fld Z h0 o0 z_s0 "value" "[B" (.ref ad0)) (ai0 : Fld Z h0 o0 z_s0 "coder" "B" (.int (0 : Int32))) (aj0 : ao0 Z h0 ad0 16) :
    as0 l Z (⟨z_s0, z_s6, "(I)V"⟩ : MethodName) jdk_68_method_9_code 3 none ws ({ frames := 0, cells := 0, slots := 0, locals := 0 } : Room) #[(.ref o0), (.int (6 : Int32))] h0 (fun (v : Option Value) (h : Heap) (L : List Loc) => v = none ∧ Fr n0 L ∧ h = h0) := by
  refine aq0 (plainFor_of_name ap0) ?_
  intro p e s m below meth c s₁ P hx hby hml hrt hlk hown hnm hZ X0 e0 hP
  have N0 := Fr.nil n0
  have K0 := Keep.refl h0 []
  have hml' : c.maxLocals = 3 := hml
  refine ar0 (dd7 m o0) ?_
  show ac0 p e below P (s₁.setTop (mkF m 0 #[.val (.ref o0), .val (.int (6 : Int32)), .unset] []))
  refine ab0 X0 hx (hb hby bg2) rfl rfl ?_
  refine ak1 X0 hx hZ hown (host := "") (Or.inl (z_w hw 40 rfl)) Via.refl e0 al0 (hb hby bh2) (fun T1 X1 e1 => ?_)
  refine ao3 X1 hx hZ e1 aj0 (j := (16 : Int32)) (by decide) (hb hby bi2) ?_
  refine ab0 X1 hx (hb hby bj2) rfl rfl ?_
  refine ak1 X1 hx hZ hown (host := "") (Or.inl (z_w hw 42 rfl)) Via.refl e1 ai0 (hb hby bk2) (fun T2 X2 e2 => ?_)
  refine al8 X2 hx (hb hby bl2) (z := ((16 : Int32) >>> ((0 : Int32) &&& 31))) rfl ?_
  rw [show ((16 : Int32) >>> ((0 : Int32) &&& 31)) = (16 : Int32) from by decide]
  show ac0 p e below P (T2.setTop (mkF m 10 #[.val (.ref o0), .val (.int (6 : Int32)), .unset] [(.int (16 : Int32))]))
  refine aj2 X2 hx (hb hby as9) (l' := #[.val (.ref o0), .val (.int (6 : Int32)), .val (.int (16 : Int32))]) rfl ?_
  refine ae0 X2 hx (hb hby at9) rfl ?_
  refine ae0 X2 hx (hb hby au9) rfl ?_
  refine ar2 X2 hx (hb hby av9) (z := (-10 : Int32)) rfl ?_
  refine ak4 X2 hx (pc' := 38) (hb hby aw9) ((if0 _ _).trans (flt (by decide : ¬ ((0 : Int32) < (-10 : Int32)))).2.2.2) ?_
  exact at1 X2 hx hlk hP hrt (hb hby ax9) (by decide) (by decide) ⟨rfl, N0, e2⟩
theorem de7 (m : MethodId) (o0 : Addr) : entryFrame m #[(.ref o0), (.int (7 : Int32))] 3 = mkF m 0 #[.val (.ref o0), .val (.int (7 : Int32)), .unset] [] := by first | (simp [entryFrame, mkF, argsToLocals, Value.category]; done) | rfl
set_option maxRecDepth 65536 in
set_option maxHeartbeats 40000000 in
theorem er0 (l : Launch) (Z : State) (a0 : Array Value) (hw : ∀ d ∈ tables_1, d.before a0 Z = true) (ws : List Jvm.Cond) (o0 : Addr) (ad0 : Addr) (h0 : Heap) (n0 : Nat) (Z0 : n0 ≤ h0.size) (E_o0 : Exa Z h0 o0 z_s2) (al0 : Fld Z h0 o0 z_s0 "value" "[B" (.ref ad0)) (ai0 : Fld Z h0 o0 z_s0 "coder" "B" (.int (0 : Int32))) (aj0 : ao0 Z h0 ad0 16) :
    as0 l Z (⟨z_s0, z_s6, "(I)V"⟩ : MethodName) jdk_68_method_9_code 3 none ws ({ frames := 0, cells := 0, slots := 0, locals := 0 } : Room) #[(.ref o0), (.int (7 : Int32))] h0 (fun (v : Option Value) (h : Heap) (L : List Loc) => v = none ∧ Fr n0 L ∧ h = h0) := by
  refine aq0 (plainFor_of_name ap0) ?_
  intro p e s m below meth c s₁ P hx hby hml hrt hlk hown hnm hZ X0 e0 hP
  have N0 := Fr.nil n0
  have K0 := Keep.refl h0 []
  have hml' : c.maxLocals = 3 := hml
  refine ar0 (de7 m o0) ?_
  show ac0 p e below P (s₁.setTop (mkF m 0 #[.val (.ref o0), .val (.int (7 : Int32)), .unset] []))
  refine ab0 X0 hx (hb hby bg2) rfl rfl ?_
  refine ak1 X0 hx hZ hown (host := "") (Or.inl (z_w hw 40 rfl)) Via.refl e0 al0 (hb hby bh2) (fun T1 X1 e1 => ?_)
  refine ao3 X1 hx hZ e1 aj0 (j := (16 : Int32)) (by decide) (hb hby bi2) ?_
  refine ab0 X1 hx (hb hby bj2) rfl rfl ?_
  refine ak1 X1 hx hZ hown (host := "") (Or.inl (z_w hw 42 rfl)) Via.refl e1 ai0 (hb hby bk2) (fun T2 X2 e2 => ?_)
  refine al8 X2 hx (hb hby bl2) (z := ((16 : Int32) >>> ((0 : Int32) &&& 31))) rfl ?_
  rw [show ((16 : Int32) >>> ((0 : Int32) &&& 31)) = (16 : Int32) from by decide]
  show ac0 p e below P (T2.setTop (mkF m 10 #[.val (.ref o0), .val (.int (7 : Int32)), .unset] [(.int (16 : Int32))]))
  refine aj2 X2 hx (hb hby as9) (l' := #[.val (.ref o0), .val (.int (7 : Int32)), .val (.int (16 : Int32))]) rfl ?_
  refine ae0 X2 hx (hb hby at9) rfl ?_
  refine ae0 X2 hx (hb hby au9) rfl ?_
  refine ar2 X2 hx (hb hby av9) (z := (-9 : Int32)) rfl ?_
  refine ak4 X2 hx (pc' := 38) (hb hby aw9) ((if0 _ _).trans (flt (by decide : ¬ ((0 : Int32) < (-9 : Int32)))).2.2.2) ?_
  exact at1 X2 hx hlk hP hrt (hb hby ax9) (by decide) (by decide) ⟨rfl, N0, e2⟩
theorem cq1 : decode jdk_48_method_27_code 0 = .ok (.iload_n 0, 1) := by decide +kernel
theorem cr1 : decode jdk_48_method_27_code 1 = .ok (.iload_n 1, 1) := by decide +kernel
theorem cs1 : decode jdk_48_method_27_code 2 = .ok (.iload_n 2, 1) := by decide +kernel
theorem ct1 : decode jdk_48_method_27_code 3 = .ok (.invokestatic 194, 3) := by decide +kernel
theorem cu1 : decode jdk_48_method_27_code 6 = .ok (.iadd, 1) := by decide +kernel
theorem cv1 : decode jdk_48_method_27_code 7 = .ok (.istore_n 3, 1) := by decide +kernel
theorem cw1 : decode jdk_48_method_27_code 8 = .ok (.iconst 0, 1) := by decide +kernel
theorem cx1 : decode jdk_48_method_27_code 9 = .ok (.iload_n 3, 1) := by decide +kernel
theorem bh8 : decode jdk_48_method_27_code 10 = .ok (.if_icmp .ge 11, 3) := by decide +kernel
theorem bi8 : decode jdk_48_method_27_code 13 = .ok (.iload_n 3, 1) := by decide +kernel
theorem bj8 : decode jdk_48_method_27_code 14 = .ok (.ldc 200, 2) := by decide +kernel
theorem bk8 : decode jdk_48_method_27_code 16 = .ok (.if_icmp .gt 5, 3) := by decide +kernel
theorem bl8 : decode jdk_48_method_27_code 19 = .ok (.iload_n 3, 1) := by decide +kernel
theorem bm8 : decode jdk_48_method_27_code 20 = .ok (.ireturn, 1) := by decide +kernel
theorem dq1 (m : MethodId)  : entryFrame m #[(.int (16 : Int32)), (.int (6 : Int32)), (.int (18 : Int32))] 4 = mkF m 0 #[.val (.int (16 : Int32)), .val (.int (6 : Int32)), .val (.int (18 : Int32)), .unset] [] := by first | (simp [entryFrame, mkF, argsToLocals, Value.category]; done) | rfl
theorem ac5 : plainName "jdk/internal/util/ArraysSupport" = true := by first | (simp [plainName, overriddenIn]; done) | decide +kernel
set_option maxRecDepth 65536 in
set_option maxHeartbeats 40000000 in
theorem df7 (l : Launch) (Z : State) (a0 : Array Value) (hw : ∀ d ∈ tables_1, d.before a0 Z = true) (ws : List Jvm.Cond)   (h0 : Heap) (n0 : Nat) (Z0 : n0 ≤ h0.size)  :
    as0 l Z (⟨"jdk/internal/util/ArraysSupport", "newLength", "(III)I"⟩ : MethodName) jdk_48_method_27_code 4 (some .int) ws ({ frames := 1, cells := 0, slots := 0, locals := 14 } : Room) #[(.int (16 : Int32)), (.int (6 : Int32)), (.int (18 : Int32))] h0 (fun (v : Option Value) (h : Heap) (L : List Loc) => v = some (.int (34 : Int32)) ∧ Fr n0 L ∧ h = h0) := by
  refine aq0 (plainFor_of_name ac5) ?_
  intro p e s m below meth c s₁ P hx hby hml hrt hlk hown hnm hZ X0 e0 hP
  have N0 := Fr.nil n0
  have K0 := Keep.refl h0 []
  have hml' : c.maxLocals = 4 := hml
  refine ar0 (dq1 m ) ?_
  show ac0 p e below P (s₁.setTop (mkF m 0 #[.val (.int (16 : Int32)), .val (.int (6 : Int32)), .val (.int (18 : Int32)), .unset] []))
  refine ae0 X0 hx (hb hby cq1) rfl ?_
  refine ae0 X0 hx (hb hby cr1) rfl ?_
  refine ae0 X0 hx (hb hby cs1) rfl ?_
  refine af1 X0 hx hZ (y := (⟨"java/lang/Math", "max", "(II)I"⟩ : MethodName)) hown (z_w hw 104 rfl) (z_w hw 105 rfl) (z_w hw 106 rfl) (z_w hw 107 rfl) (cr4 l Z a0 hw [] (6 : Int32) (18 : Int32)  h0 n0 (Nat.le_trans Z0 K0.1) ) 1 e0 hml' (argsL := [(.int (6 : Int32)), (.int (18 : Int32))]) (rest := [(.int (16 : Int32))]) (lenOf ap2 rfl) (hb hby ct1) (fun r1 T1 L1 X1 hQ1 => ?_)
  obtain ⟨rfl, Nq1, eq1⟩ := hQ1
  have N1 := Fr.app N0 Nq1
  show ac0 p e below P (T1.setTop (mkF m 6 #[.val (.int (16 : Int32)), .val (.int (6 : Int32)), .val (.int (18 : Int32)), .unset] [(.int (ar9 (6 : Int32) (18 : Int32))), (.int (16 : Int32))]))
  rw [show (ar9 (6 : Int32) (18 : Int32)) = (18 : Int32) from by decide]
  show ac0 p e below P (T1.setTop (mkF m 6 #[.val (.int (16 : Int32)), .val (.int (6 : Int32)), .val (.int (18 : Int32)), .unset] [(.int (18 : Int32)), (.int (16 : Int32))]))
  refine am2 X1 hx (hb hby cu1) (z := (34 : Int32)) rfl ?_
  refine aj2 X1 hx (hb hby cv1) (l' := #[.val (.int (16 : Int32)), .val (.int (6 : Int32)), .val (.int (18 : Int32)), .val (.int (34 : Int32))]) rfl ?_
  refine am0 X1 hx (hb hby cw1) (z := (0 : Int32)) rfl ?_
  refine ae0 X1 hx (hb hby cx1) rfl ?_
  refine av0 X1 hx (hb hby bh8) (tlt (by decide : (0 : Int32) < (34 : Int32))).2.1 ?_
  refine ae0 X1 hx (hb hby bi8) rfl ?_
  refine ae1 (fun _ => X1.ldcInt hx hown (mvT hZ (z_w hw 108 rfl)) (g := (mkF m 14 #[.val (.int (16 : Int32)), .val (.int (6 : Int32)), .val (.int (18 : Int32)), .val (.int (34 : Int32))] [(.int (34 : Int32))])) rfl (hb hby bj8) _) ?_
  show ac0 p e below P (T1.setTop (mkF m 16 #[.val (.int (16 : Int32)), .val (.int (6 : Int32)), .val (.int (18 : Int32)), .val (.int (34 : Int32))] [(.int (2147483639 : Int32)), (.int (34 : Int32))]))
  refine av0 X1 hx (hb hby bk8) (flt (by decide : ¬ ((2147483639 : Int32) < (34 : Int32)))).2.2.1 ?_
  refine ae0 X1 hx (hb hby bl8) rfl ?_
  exact aq4 X1 hx hlk hP hrt (hb hby bm8) (by decide) (by decide) ⟨rfl, N1, eq1⟩
theorem cy1 : decode jdk_68_method_10_code 0 = .ok (.aload_n 0, 1) := by decide +kernel
theorem cz1 : decode jdk_68_method_10_code 1 = .ok (.getfield 15, 3) := by decide +kernel
theorem ca2 : decode jdk_68_method_10_code 4 = .ok (.arraylength, 1) := by decide +kernel
theorem cb2 : decode jdk_68_method_10_code 5 = .ok (.istore_n 2, 1) := by decide +kernel
theorem cc2 : decode jdk_68_method_10_code 6 = .ok (.iload_n 1, 1) := by decide +kernel
theorem cd2 : decode jdk_68_method_10_code 7 = .ok (.aload_n 0, 1) := by decide +kernel
theorem ce2 : decode jdk_68_method_10_code 8 = .ok (.getfield 22, 3) := by decide +kernel
theorem bn8 : decode jdk_68_method_10_code 11 = .ok (.ishl, 1) := by decide +kernel
theorem bo8 : decode jdk_68_method_10_code 12 = .ok (.istore_n 3, 1) := by decide +kernel
theorem bp8 : decode jdk_68_method_10_code 13 = .ok (.iload_n 3, 1) := by decide +kernel
theorem bq8 : decode jdk_68_method_10_code 14 = .ok (.iload_n 2, 1) := by decide +kernel
theorem br8 : decode jdk_68_method_10_code 15 = .ok (.isub, 1) := by decide +kernel
theorem bs8 : decode jdk_68_method_10_code 16 = .ok (.istore 4, 2) := by decide +kernel
theorem bt8 : decode jdk_68_method_10_code 18 = .ok (.iload_n 2, 1) := by decide +kernel
theorem bu8 : decode jdk_68_method_10_code 19 = .ok (.iload 4, 2) := by decide +kernel
theorem bv8 : decode jdk_68_method_10_code 21 = .ok (.iload_n 2, 1) := by decide +kernel
theorem bw8 : decode jdk_68_method_10_code 22 = .ok (.iconst 2, 1) := by decide +kernel
theorem bx8 : decode jdk_68_method_10_code 23 = .ok (.aload_n 0, 1) := by decide +kernel
theorem by8 : decode jdk_68_method_10_code 24 = .ok (.getfield 22, 3) := by decide +kernel
theorem bz8 : decode jdk_68_method_10_code 27 = .ok (.ishl, 1) := by decide +kernel
theorem b9 : decode jdk_68_method_10_code 28 = .ok (.iadd, 1) := by decide +kernel
theorem ba9 : decode jdk_68_method_10_code 29 = .ok (.invokestatic 114, 3) := by decide +kernel
theorem by4 : parseMethodDescriptor "(III)I" = some ⟨[.int, .int, .int], some .int⟩ := by decide +kernel
theorem bb9 : decode jdk_68_method_10_code 32 = .ok (.istore 5, 2) := by decide +kernel
theorem bc9 : decode jdk_68_method_10_code 34 = .ok (.iload 5, 2) := by decide +kernel
theorem bd9 : decode jdk_68_method_10_code 36 = .ok (.ldc 39, 2) := by decide +kernel
theorem be9 : decode jdk_68_method_10_code 38 = .ok (.if_icmp .ne 13, 3) := by decide +kernel
theorem bf9 : decode jdk_68_method_10_code 51 = .ok (.iload 5, 2) := by decide +kernel
theorem bg9 : decode jdk_68_method_10_code 53 = .ok (.aload_n 0, 1) := by decide +kernel
theorem bh9 : decode jdk_68_method_10_code 54 = .ok (.getfield 22, 3) := by decide +kernel
theorem bi9 : decode jdk_68_method_10_code 57 = .ok (.ishr, 1) := by decide +kernel
theorem bj9 : decode jdk_68_method_10_code 58 = .ok (.ireturn, 1) := by decide +kernel
theorem dr1 (m : MethodId) (o0 : Addr) : entryFrame m #[(.ref o0), (.int (22 : Int32))] 6 = mkF m 0 #[.val (.ref o0), .val (.int (22 : Int32)), .unset, .unset, .unset, .unset] [] := by first | (simp [entryFrame, mkF, argsToLocals, Value.category]; done) | rfl
set_option maxRecDepth 65536 in
set_option maxHeartbeats 40000000 in
theorem dg7 (l : Launch) (Z : State) (a0 : Array Value) (hw : ∀ d ∈ tables_1, d.before a0 Z = true) (ws : List Jvm.Cond) (o0 : Addr) (ad0 : Addr) (h0 : Heap) (n0 : Nat) (Z0 : n0 ≤ h0.size) (E_o0 : Exa Z h0 o0 z_s2) (al0 : Fld Z h0 o0 z_s0 "value" "[B" (.ref ad0)) (ai0 : Fld Z h0 o0 z_s0 "coder" "B" (.int (0 : Int32))) (aj0 : ao0 Z h0 ad0 16) :
    as0 l Z (⟨z_s0, "newCapacity", "(I)I"⟩ : MethodName) jdk_68_method_10_code 6 (some .int) ws ({ frames := 2, cells := 0, slots := 0, locals := 29 } : Room) #[(.ref o0), (.int (22 : Int32))] h0 (fun (v : Option Value) (h : Heap) (L : List Loc) => v = some (.int (34 : Int32)) ∧ Fr n0 L ∧ h = h0) := by
  refine aq0 (plainFor_of_name ap0) ?_
  intro p e s m below meth c s₁ P hx hby hml hrt hlk hown hnm hZ X0 e0 hP
  have N0 := Fr.nil n0
  have K0 := Keep.refl h0 []
  have hml' : c.maxLocals = 6 := hml
  refine ar0 (dr1 m o0) ?_
  show ac0 p e below P (s₁.setTop (mkF m 0 #[.val (.ref o0), .val (.int (22 : Int32)), .unset, .unset, .unset, .unset] []))
  refine ab0 X0 hx (hb hby cy1) rfl rfl ?_
  refine ak1 X0 hx hZ hown (host := "") (Or.inl (z_w hw 40 rfl)) Via.refl e0 al0 (hb hby cz1) (fun T1 X1 e1 => ?_)
  refine ao3 X1 hx hZ e1 aj0 (j := (16 : Int32)) (by decide) (hb hby ca2) ?_
  refine aj2 X1 hx (hb hby cb2) (l' := #[.val (.ref o0), .val (.int (22 : Int32)), .val (.int (16 : Int32)), .unset, .unset, .unset]) rfl ?_
  refine ae0 X1 hx (hb hby cc2) rfl ?_
  refine ab0 X1 hx (hb hby cd2) rfl rfl ?_
  refine ak1 X1 hx hZ hown (host := "") (Or.inl (z_w hw 42 rfl)) Via.refl e1 ai0 (hb hby ce2) (fun T2 X2 e2 => ?_)
  refine aa9 X2 hx (hb hby bn8) (z := ((22 : Int32) <<< ((0 : Int32) &&& 31))) rfl ?_
  rw [show ((22 : Int32) <<< ((0 : Int32) &&& 31)) = (22 : Int32) from by decide]
  show ac0 p e below P (T2.setTop (mkF m 12 #[.val (.ref o0), .val (.int (22 : Int32)), .val (.int (16 : Int32)), .unset, .unset, .unset] [(.int (22 : Int32))]))
  refine aj2 X2 hx (hb hby bo8) (l' := #[.val (.ref o0), .val (.int (22 : Int32)), .val (.int (16 : Int32)), .val (.int (22 : Int32)), .unset, .unset]) rfl ?_
  refine ae0 X2 hx (hb hby bp8) rfl ?_
  refine ae0 X2 hx (hb hby bq8) rfl ?_
  refine ar2 X2 hx (hb hby br8) (z := (6 : Int32)) rfl ?_
  refine ai1 X2 hx (hb hby bs8) (l' := #[.val (.ref o0), .val (.int (22 : Int32)), .val (.int (16 : Int32)), .val (.int (22 : Int32)), .val (.int (6 : Int32)), .unset]) rfl ?_
  refine ae0 X2 hx (hb hby bt8) rfl ?_
  refine ak0 X2 hx (hb hby bu8) rfl ?_
  refine ae0 X2 hx (hb hby bv8) rfl ?_
  refine am0 X2 hx (hb hby bw8) (z := (2 : Int32)) rfl ?_
  refine ab0 X2 hx (hb hby bx8) rfl rfl ?_
  refine ak1 X2 hx hZ hown (host := "") (Or.inl (z_w hw 42 rfl)) Via.refl e2 ai0 (hb hby by8) (fun T3 X3 e3 => ?_)
  refine aa9 X3 hx (hb hby bz8) (z := ((2 : Int32) <<< ((0 : Int32) &&& 31))) rfl ?_
  rw [show ((2 : Int32) <<< ((0 : Int32) &&& 31)) = (2 : Int32) from by decide]
  show ac0 p e below P (T3.setTop (mkF m 28 #[.val (.ref o0), .val (.int (22 : Int32)), .val (.int (16 : Int32)), .val (.int (22 : Int32)), .val (.int (6 : Int32)), .unset] [(.int (2 : Int32)), (.int (16 : Int32)), (.int (6 : Int32)), (.int (16 : Int32))]))
  refine am2 X3 hx (hb hby b9) (z := (18 : Int32)) rfl ?_
  refine af1 X3 hx hZ (y := (⟨"jdk/internal/util/ArraysSupport", "newLength", "(III)I"⟩ : MethodName)) hown (z_w hw 100 rfl) (z_w hw 101 rfl) (z_w hw 102 rfl) (z_w hw 103 rfl) (df7 l Z a0 hw []   h0 n0 (Nat.le_trans Z0 K0.1) ) 0 e3 hml' (argsL := [(.int (16 : Int32)), (.int (6 : Int32)), (.int (18 : Int32))]) (rest := []) (lenOf by4 rfl) (hb hby ba9) (fun r4 T4 L4 X4 hQ4 => ?_)
  obtain ⟨rfl, Nq4, eq4⟩ := hQ4
  have N4 := Fr.app N0 Nq4
  show ac0 p e below P (T4.setTop (mkF m 32 #[.val (.ref o0), .val (.int (22 : Int32)), .val (.int (16 : Int32)), .val (.int (22 : Int32)), .val (.int (6 : Int32)), .unset] [(.int (34 : Int32))]))
  refine ai1 X4 hx (hb hby bb9) (l' := #[.val (.ref o0), .val (.int (22 : Int32)), .val (.int (16 : Int32)), .val (.int (22 : Int32)), .val (.int (6 : Int32)), .val (.int (34 : Int32))]) rfl ?_
  refine ak0 X4 hx (hb hby bc9) rfl ?_
  refine ae1 (fun _ => X4.ldcInt hx hown (mvT hZ (z_w hw 109 rfl)) (g := (mkF m 36 #[.val (.ref o0), .val (.int (22 : Int32)), .val (.int (16 : Int32)), .val (.int (22 : Int32)), .val (.int (6 : Int32)), .val (.int (34 : Int32))] [(.int (34 : Int32))])) rfl (hb hby bd9) _) ?_
  show ac0 p e below P (T4.setTop (mkF m 38 #[.val (.ref o0), .val (.int (22 : Int32)), .val (.int (16 : Int32)), .val (.int (22 : Int32)), .val (.int (6 : Int32)), .val (.int (34 : Int32))] [(.int (2147483647 : Int32)), (.int (34 : Int32))]))
  refine au0 X4 hx (pc' := 51) (hb hby be9) (feq (by decide : ¬ ((34 : Int32) = (2147483647 : Int32)))).2 ?_
  refine ak0 X4 hx (hb hby bf9) rfl ?_
  refine ab0 X4 hx (hb hby bg9) rfl rfl ?_
  refine ak1 X4 hx hZ hown (host := "") (Or.inl (z_w hw 42 rfl)) Via.refl eq4 ai0 (hb hby bh9) (fun T5 X5 e5 => ?_)
  refine al8 X5 hx (hb hby bi9) (z := ((34 : Int32) >>> ((0 : Int32) &&& 31))) rfl ?_
  rw [show ((34 : Int32) >>> ((0 : Int32) &&& 31)) = (34 : Int32) from by decide]
  show ac0 p e below P (T5.setTop (mkF m 58 #[.val (.ref o0), .val (.int (22 : Int32)), .val (.int (16 : Int32)), .val (.int (22 : Int32)), .val (.int (6 : Int32)), .val (.int (34 : Int32))] [(.int (34 : Int32))]))
  exact aq4 X5 hx hlk hP hrt (hb hby bj9) (by decide) (by decide) ⟨rfl, N4, e5⟩
theorem bk9 : decode jdk_68_method_9_code 17 = .ok (.aload_n 0, 1) := by decide +kernel
theorem bl9 : decode jdk_68_method_9_code 18 = .ok (.aload_n 0, 1) := by decide +kernel
theorem bm9 : decode jdk_68_method_9_code 19 = .ok (.getfield 15, 3) := by decide +kernel
theorem bn9 : decode jdk_68_method_9_code 22 = .ok (.aload_n 0, 1) := by decide +kernel
theorem bo9 : decode jdk_68_method_9_code 23 = .ok (.iload_n 1, 1) := by decide +kernel
theorem bp9 : decode jdk_68_method_9_code 24 = .ok (.invokevirtual 104, 3) := by decide +kernel
theorem bz6 : parseMethodDescriptor "(I)I" = some ⟨[.int], some .int⟩ := by decide +kernel
theorem bq9 : decode jdk_68_method_9_code 27 = .ok (.aload_n 0, 1) := by decide +kernel
theorem br9 : decode jdk_68_method_9_code 28 = .ok (.getfield 22, 3) := by decide +kernel
theorem bs9 : decode jdk_68_method_9_code 31 = .ok (.ishl, 1) := by decide +kernel
theorem bt9 : decode jdk_68_method_9_code 32 = .ok (.invokestatic 108, 3) := by decide +kernel
theorem bz4 : parseMethodDescriptor "([BI)[B" = some ⟨[(.array .byte), .int], some (.array .byte)⟩ := by decide +kernel
theorem bu9 : decode jdk_68_method_9_code 35 = .ok (.putfield 15, 3) := by decide +kernel
theorem ds1 (m : MethodId) (o0 : Addr) : entryFrame m #[(.ref o0), (.int (22 : Int32))] 3 = mkF m 0 #[.val (.ref o0), .val (.int (22 : Int32)), .unset] [] := by first | (simp [entryFrame, mkF, argsToLocals, Value.category]; done) | rfl
set_option maxRecDepth 65536 in
set_option maxHeartbeats 40000000 in
theorem dh7 (l : Launch) (Z : State) (a0 : Array Value) (hw : ∀ d ∈ tables_1, d.before a0 Z = true) (ws : List Jvm.Cond) (o0 : Addr) (ad0 : Addr) (h0 : Heap) (n0 : Nat) (Z0 : n0 ≤ h0.size) (E_o0 : Exa Z h0 o0 z_s2) (al0 : Fld Z h0 o0 z_s0 "value" "[B" (.ref ad0)) (ai0 : Fld Z h0 o0 z_s0 "coder" "B" (.int (0 : Int32))) (ay0 : Fld Z h0 o0 z_s0 "count" "I" (.int (5 : Int32))) (aj0 : ao0 Z h0 ad0 16) (ab1 : n0 ≤ o0) (aw0 : o0 ≠ ad0) :
    as0 l Z (⟨z_s0, z_s6, "(I)V"⟩ : MethodName) jdk_68_method_9_code 3 none ws ({ frames := 3, cells := 1, slots := 34, locals := 55 } : Room) #[(.ref o0), (.int (22 : Int32))] h0 (fun (v : Option Value) (h : Heap) (L : List Loc) => ∃ (b1_6 : Addr), v = none ∧ Fr n0 L ∧ Keep h0 h [o0] ∧ h0.size ≤ b1_6 ∧ n0 ≤ b1_6 ∧ Exa Z h o0 z_s2 ∧ Fld Z h o0 z_s0 "value" "[B" (.ref b1_6) ∧ Fld Z h o0 z_s0 "coder" "B" (.int (0 : Int32)) ∧ Fld Z h o0 z_s0 "count" "I" (.int (5 : Int32)) ∧ ao0 Z h b1_6 34) := by
  refine aq0 (plainFor_of_name ap0) ?_
  intro p e s m below meth c s₁ P hx hby hml hrt hlk hown hnm hZ X0 e0 hP
  have N0 := Fr.nil n0
  have K0 := Keep.refl h0 [o0]
  have hml' : c.maxLocals = 3 := hml
  refine ar0 (ds1 m o0) ?_
  show ac0 p e below P (s₁.setTop (mkF m 0 #[.val (.ref o0), .val (.int (22 : Int32)), .unset] []))
  refine ab0 X0 hx (hb hby bg2) rfl rfl ?_
  refine ak1 X0 hx hZ hown (host := "") (Or.inl (z_w hw 40 rfl)) Via.refl e0 al0 (hb hby bh2) (fun T1 X1 e1 => ?_)
  refine ao3 X1 hx hZ e1 aj0 (j := (16 : Int32)) (by decide) (hb hby bi2) ?_
  refine ab0 X1 hx (hb hby bj2) rfl rfl ?_
  refine ak1 X1 hx hZ hown (host := "") (Or.inl (z_w hw 42 rfl)) Via.refl e1 ai0 (hb hby bk2) (fun T2 X2 e2 => ?_)
  refine al8 X2 hx (hb hby bl2) (z := ((16 : Int32) >>> ((0 : Int32) &&& 31))) rfl ?_
  rw [show ((16 : Int32) >>> ((0 : Int32) &&& 31)) = (16 : Int32) from by decide]
  show ac0 p e below P (T2.setTop (mkF m 10 #[.val (.ref o0), .val (.int (22 : Int32)), .unset] [(.int (16 : Int32))]))
  refine aj2 X2 hx (hb hby as9) (l' := #[.val (.ref o0), .val (.int (22 : Int32)), .val (.int (16 : Int32))]) rfl ?_
  refine ae0 X2 hx (hb hby at9) rfl ?_
  refine ae0 X2 hx (hb hby au9) rfl ?_
  refine ar2 X2 hx (hb hby av9) (z := (6 : Int32)) rfl ?_
  refine aa3 X2 hx (hb hby aw9) ((if0 _ _).trans (tlt (by decide : (0 : Int32) < (6 : Int32))).2.2.2) ?_
  refine ab0 X2 hx (hb hby bk9) rfl rfl ?_
  refine ab0 X2 hx (hb hby bl9) rfl rfl ?_
  refine ak1 X2 hx hZ hown (host := "") (Or.inl (z_w hw 40 rfl)) Via.refl e2 al0 (hb hby bm9) (fun T3 X3 e3 => ?_)
  refine ab0 X3 hx (hb hby bn9) rfl rfl ?_
  refine ae0 X3 hx (hb hby bo9) rfl ?_
  refine a5 X3 hx hZ (y := (⟨z_s0, "newCapacity", "(I)I"⟩ : MethodName)) (z := (⟨z_s0, z_s6, "(I)V"⟩ : MethodName)) hown (z_w hw 95 rfl) (z_w hw 96 rfl) rfl (z_w hw 72 rfl) (z_w hw 97 rfl) (z_w hw 36 rfl) (z_w hw 99 rfl) E_o0 (dg7 l Z a0 hw [] o0 ad0 h0 n0 (Nat.le_trans Z0 K0.1) E_o0 al0 ai0 aj0) 2 e3 hml' (argsL := [(.int (22 : Int32))]) (rest := [(.ref ad0), (.ref o0)]) (lenOf bz6 rfl) (hb hby bp9) (fun r4 T4 L4 X4 hQ4 => ?_)
  obtain ⟨rfl, Nq4, eq4⟩ := hQ4
  have N4 := Fr.app N0 Nq4
  show ac0 p e below P (T4.setTop (mkF m 27 #[.val (.ref o0), .val (.int (22 : Int32)), .val (.int (16 : Int32))] [(.int (34 : Int32)), (.ref ad0), (.ref o0)]))
  refine ab0 X4 hx (hb hby bq9) rfl rfl ?_
  refine ak1 X4 hx hZ hown (host := "") (Or.inl (z_w hw 42 rfl)) Via.refl eq4 ai0 (hb hby br9) (fun T5 X5 e5 => ?_)
  refine aa9 X5 hx (hb hby bs9) (z := ((34 : Int32) <<< ((0 : Int32) &&& 31))) rfl ?_
  rw [show ((34 : Int32) <<< ((0 : Int32) &&& 31)) = (34 : Int32) from by decide]
  show ac0 p e below P (T5.setTop (mkF m 32 #[.val (.ref o0), .val (.int (22 : Int32)), .val (.int (16 : Int32))] [(.int (34 : Int32)), (.ref ad0), (.ref o0)]))
  refine af1 X5 hx hZ (y := (⟨z_s5, "copyOf", "([BI)[B"⟩ : MethodName)) hown (z_w hw 110 rfl) (z_w hw 111 rfl) (z_w hw 112 rfl) (z_w hw 113 rfl) (cs4 l Z a0 hw [] ad0  h0 n0 (Nat.le_trans Z0 K0.1) aj0) 1 e5 hml' (argsL := [(.ref ad0), (.int (34 : Int32))]) (rest := [(.ref o0)]) (lenOf bz4 rfl) (hb hby bt9) (fun r6 T6 L6 X6 hQ6 => ?_)
  obtain ⟨b1_6, rfl, Nq6, Kq6, af9, bp7, f0_6⟩ := hQ6
  have N6 := Fr.app N4 Nq6
  have ne7 := z_nc E_o0.lt af9
  have ne8 := z_nc aj0.lt af9
  have cl1 := Nat.le_trans K0.1 af9
  have K6 := Keep.trans K0 Kq6 all0
  show ac0 p e below P (T6.setTop (mkF m 35 #[.val (.ref o0), .val (.int (22 : Int32)), .val (.int (16 : Int32))] [(.ref b1_6), (.ref o0)]))
  have G9 := (al0.keep Kq6 nin0)
  have G10 := (E_o0.keep Kq6)
  refine aj7 X6 hx hZ hown (host := "") (Or.inl (z_w hw 40 rfl)) Via.refl rfl G9 G10 (Or.inl (z_w hw 41 rfl)) (z_w hw 27 rfl) (ty := (.array .byte)) (by decide) (hb hby bu9) (fun T11 h11 X11 e11 W11 => ?_)
  have N11 := Fr.snoc X11 N6 ab1
  have K11 := Keep.wr K6 W11 (Or.inl (List.mem_of_getElem? (i := 0) rfl))
  have F11 := G9.same W11
  have G12 := (G10.wr W11)
  have G13 := ((ai0.keep Kq6 nin0).other W11 (Or.inr (slot_ne (Or.inl (z_w hw 43 rfl)) (Or.inl (z_w hw 41 rfl)) (by decide) (t := .byte) (t' := (.array .byte)) (by decide) (by decide))))
  have G14 := ((ay0.keep Kq6 nin0).other W11 (Or.inr (slot_ne (Or.inl (z_w hw 68 rfl)) (Or.inl (z_w hw 41 rfl)) (by decide) (t := .int) (t' := (.array .byte)) (by decide) (by decide))))
  have G15 := (f0_6.other W11 ne7.symm)
  have hfin : ((fun (v : Option Value) (h : Heap) (L : List Loc) => ∃ (b1_6 : Addr), v = none ∧ Fr n0 L ∧ Keep h0 h [o0] ∧ h0.size ≤ b1_6 ∧ n0 ≤ b1_6 ∧ Exa Z h o0 z_s2 ∧ Fld Z h o0 z_s0 "value" "[B" (.ref b1_6) ∧ Fld Z h o0 z_s0 "coder" "B" (.int (0 : Int32)) ∧ Fld Z h o0 z_s0 "count" "I" (.int (5 : Int32)) ∧ ao0 Z h b1_6 34)) none h11 _ := ⟨b1_6, rfl, N11, K11, cl1, bp7, G12, F11, G13, G14, G15⟩
  refine at1 X11 hx hlk hP hrt (hb hby ax9) (by decide) (by decide) ?_
  rw [e11]; exact hfin
theorem dt1 (m : MethodId)  : entryFrame m #[(.int (16 : Int32)), (.int (7 : Int32)), (.int (18 : Int32))] 4 = mkF m 0 #[.val (.int (16 : Int32)), .val (.int (7 : Int32)), .val (.int (18 : Int32)), .unset] [] := by first | (simp [entryFrame, mkF, argsToLocals, Value.category]; done) | rfl
set_option maxRecDepth 65536 in
set_option maxHeartbeats 40000000 in
theorem di7 (l : Launch) (Z : State) (a0 : Array Value) (hw : ∀ d ∈ tables_1, d.before a0 Z = true) (ws : List Jvm.Cond)   (h0 : Heap) (n0 : Nat) (Z0 : n0 ≤ h0.size)  :
    as0 l Z (⟨"jdk/internal/util/ArraysSupport", "newLength", "(III)I"⟩ : MethodName) jdk_48_method_27_code 4 (some .int) ws ({ frames := 1, cells := 0, slots := 0, locals := 14 } : Room) #[(.int (16 : Int32)), (.int (7 : Int32)), (.int (18 : Int32))] h0 (fun (v : Option Value) (h : Heap) (L : List Loc) => v = some (.int (34 : Int32)) ∧ Fr n0 L ∧ h = h0) := by
  refine aq0 (plainFor_of_name ac5) ?_
  intro p e s m below meth c s₁ P hx hby hml hrt hlk hown hnm hZ X0 e0 hP
  have N0 := Fr.nil n0
  have K0 := Keep.refl h0 []
  have hml' : c.maxLocals = 4 := hml
  refine ar0 (dt1 m ) ?_
  show ac0 p e below P (s₁.setTop (mkF m 0 #[.val (.int (16 : Int32)), .val (.int (7 : Int32)), .val (.int (18 : Int32)), .unset] []))
  refine ae0 X0 hx (hb hby cq1) rfl ?_
  refine ae0 X0 hx (hb hby cr1) rfl ?_
  refine ae0 X0 hx (hb hby cs1) rfl ?_
  refine af1 X0 hx hZ (y := (⟨"java/lang/Math", "max", "(II)I"⟩ : MethodName)) hown (z_w hw 104 rfl) (z_w hw 105 rfl) (z_w hw 106 rfl) (z_w hw 107 rfl) (cr4 l Z a0 hw [] (7 : Int32) (18 : Int32)  h0 n0 (Nat.le_trans Z0 K0.1) ) 1 e0 hml' (argsL := [(.int (7 : Int32)), (.int (18 : Int32))]) (rest := [(.int (16 : Int32))]) (lenOf ap2 rfl) (hb hby ct1) (fun r1 T1 L1 X1 hQ1 => ?_)
  obtain ⟨rfl, Nq1, eq1⟩ := hQ1
  have N1 := Fr.app N0 Nq1
  show ac0 p e below P (T1.setTop (mkF m 6 #[.val (.int (16 : Int32)), .val (.int (7 : Int32)), .val (.int (18 : Int32)), .unset] [(.int (ar9 (7 : Int32) (18 : Int32))), (.int (16 : Int32))]))
  rw [show (ar9 (7 : Int32) (18 : Int32)) = (18 : Int32) from by decide]
  show ac0 p e below P (T1.setTop (mkF m 6 #[.val (.int (16 : Int32)), .val (.int (7 : Int32)), .val (.int (18 : Int32)), .unset] [(.int (18 : Int32)), (.int (16 : Int32))]))
  refine am2 X1 hx (hb hby cu1) (z := (34 : Int32)) rfl ?_
  refine aj2 X1 hx (hb hby cv1) (l' := #[.val (.int (16 : Int32)), .val (.int (7 : Int32)), .val (.int (18 : Int32)), .val (.int (34 : Int32))]) rfl ?_
  refine am0 X1 hx (hb hby cw1) (z := (0 : Int32)) rfl ?_
  refine ae0 X1 hx (hb hby cx1) rfl ?_
  refine av0 X1 hx (hb hby bh8) (tlt (by decide : (0 : Int32) < (34 : Int32))).2.1 ?_
  refine ae0 X1 hx (hb hby bi8) rfl ?_
  refine ae1 (fun _ => X1.ldcInt hx hown (mvT hZ (z_w hw 108 rfl)) (g := (mkF m 14 #[.val (.int (16 : Int32)), .val (.int (7 : Int32)), .val (.int (18 : Int32)), .val (.int (34 : Int32))] [(.int (34 : Int32))])) rfl (hb hby bj8) _) ?_
  show ac0 p e below P (T1.setTop (mkF m 16 #[.val (.int (16 : Int32)), .val (.int (7 : Int32)), .val (.int (18 : Int32)), .val (.int (34 : Int32))] [(.int (2147483639 : Int32)), (.int (34 : Int32))]))
  refine av0 X1 hx (hb hby bk8) (flt (by decide : ¬ ((2147483639 : Int32) < (34 : Int32)))).2.2.1 ?_
  refine ae0 X1 hx (hb hby bl8) rfl ?_
  exact aq4 X1 hx hlk hP hrt (hb hby bm8) (by decide) (by decide) ⟨rfl, N1, eq1⟩
theorem du1 (m : MethodId) (o0 : Addr) : entryFrame m #[(.ref o0), (.int (23 : Int32))] 6 = mkF m 0 #[.val (.ref o0), .val (.int (23 : Int32)), .unset, .unset, .unset, .unset] [] := by first | (simp [entryFrame, mkF, argsToLocals, Value.category]; done) | rfl
set_option maxRecDepth 65536 in
set_option maxHeartbeats 40000000 in
theorem dj7 (l : Launch) (Z : State) (a0 : Array Value) (hw : ∀ d ∈ tables_1, d.before a0 Z = true) (ws : List Jvm.Cond) (o0 : Addr) (ad0 : Addr) (h0 : Heap) (n0 : Nat) (Z0 : n0 ≤ h0.size) (E_o0 : Exa Z h0 o0 z_s2) (al0 : Fld Z h0 o0 z_s0 "value" "[B" (.ref ad0)) (ai0 : Fld Z h0 o0 z_s0 "coder" "B" (.int (0 : Int32))) (aj0 : ao0 Z h0 ad0 16) :
    as0 l Z (⟨z_s0, "newCapacity", "(I)I"⟩ : MethodName) jdk_68_method_10_code 6 (some .int) ws ({ frames := 2, cells := 0, slots := 0, locals := 29 } : Room) #[(.ref o0), (.int (23 : Int32))] h0 (fun (v : Option Value) (h : Heap) (L : List Loc) => v = some (.int (34 : Int32)) ∧ Fr n0 L ∧ h = h0) := by
  refine aq0 (plainFor_of_name ap0) ?_
  intro p e s m below meth c s₁ P hx hby hml hrt hlk hown hnm hZ X0 e0 hP
  have N0 := Fr.nil n0
  have K0 := Keep.refl h0 []
  have hml' : c.maxLocals = 6 := hml
  refine ar0 (du1 m o0) ?_
  show ac0 p e below P (s₁.setTop (mkF m 0 #[.val (.ref o0), .val (.int (23 : Int32)), .unset, .unset, .unset, .unset] []))
  refine ab0 X0 hx (hb hby cy1) rfl rfl ?_
  refine ak1 X0 hx hZ hown (host := "") (Or.inl (z_w hw 40 rfl)) Via.refl e0 al0 (hb hby cz1) (fun T1 X1 e1 => ?_)
  refine ao3 X1 hx hZ e1 aj0 (j := (16 : Int32)) (by decide) (hb hby ca2) ?_
  refine aj2 X1 hx (hb hby cb2) (l' := #[.val (.ref o0), .val (.int (23 : Int32)), .val (.int (16 : Int32)), .unset, .unset, .unset]) rfl ?_
  refine ae0 X1 hx (hb hby cc2) rfl ?_
  refine ab0 X1 hx (hb hby cd2) rfl rfl ?_
  refine ak1 X1 hx hZ hown (host := "") (Or.inl (z_w hw 42 rfl)) Via.refl e1 ai0 (hb hby ce2) (fun T2 X2 e2 => ?_)
  refine aa9 X2 hx (hb hby bn8) (z := ((23 : Int32) <<< ((0 : Int32) &&& 31))) rfl ?_
  rw [show ((23 : Int32) <<< ((0 : Int32) &&& 31)) = (23 : Int32) from by decide]
  show ac0 p e below P (T2.setTop (mkF m 12 #[.val (.ref o0), .val (.int (23 : Int32)), .val (.int (16 : Int32)), .unset, .unset, .unset] [(.int (23 : Int32))]))
  refine aj2 X2 hx (hb hby bo8) (l' := #[.val (.ref o0), .val (.int (23 : Int32)), .val (.int (16 : Int32)), .val (.int (23 : Int32)), .unset, .unset]) rfl ?_
  refine ae0 X2 hx (hb hby bp8) rfl ?_
  refine ae0 X2 hx (hb hby bq8) rfl ?_
  refine ar2 X2 hx (hb hby br8) (z := (7 : Int32)) rfl ?_
  refine ai1 X2 hx (hb hby bs8) (l' := #[.val (.ref o0), .val (.int (23 : Int32)), .val (.int (16 : Int32)), .val (.int (23 : Int32)), .val (.int (7 : Int32)), .unset]) rfl ?_
  refine ae0 X2 hx (hb hby bt8) rfl ?_
  refine ak0 X2 hx (hb hby bu8) rfl ?_
  refine ae0 X2 hx (hb hby bv8) rfl ?_
  refine am0 X2 hx (hb hby bw8) (z := (2 : Int32)) rfl ?_
  refine ab0 X2 hx (hb hby bx8) rfl rfl ?_
  refine ak1 X2 hx hZ hown (host := "") (Or.inl (z_w hw 42 rfl)) Via.refl e2 ai0 (hb hby by8) (fun T3 X3 e3 => ?_)
  refine aa9 X3 hx (hb hby bz8) (z := ((2 : Int32) <<< ((0 : Int32) &&& 31))) rfl ?_
  rw [show ((2 : Int32) <<< ((0 : Int32) &&& 31)) = (2 : Int32) from by decide]
  show ac0 p e below P (T3.setTop (mkF m 28 #[.val (.ref o0), .val (.int (23 : Int32)), .val (.int (16 : Int32)), .val (.int (23 : Int32)), .val (.int (7 : Int32)), .unset] [(.int (2 : Int32)), (.int (16 : Int32)), (.int (7 : Int32)), (.int (16 : Int32))]))
  refine am2 X3 hx (hb hby b9) (z := (18 : Int32)) rfl ?_
  refine af1 X3 hx hZ (y := (⟨"jdk/internal/util/ArraysSupport", "newLength", "(III)I"⟩ : MethodName)) hown (z_w hw 100 rfl) (z_w hw 101 rfl) (z_w hw 102 rfl) (z_w hw 103 rfl) (di7 l Z a0 hw []   h0 n0 (Nat.le_trans Z0 K0.1) ) 0 e3 hml' (argsL := [(.int (16 : Int32)), (.int (7 : Int32)), (.int (18 : Int32))]) (rest := []) (lenOf by4 rfl) (hb hby ba9) (fun r4 T4 L4 X4 hQ4 => ?_)
  obtain ⟨rfl, Nq4, eq4⟩ := hQ4
  have N4 := Fr.app N0 Nq4
  show ac0 p e below P (T4.setTop (mkF m 32 #[.val (.ref o0), .val (.int (23 : Int32)), .val (.int (16 : Int32)), .val (.int (23 : Int32)), .val (.int (7 : Int32)), .unset] [(.int (34 : Int32))]))
  refine ai1 X4 hx (hb hby bb9) (l' := #[.val (.ref o0), .val (.int (23 : Int32)), .val (.int (16 : Int32)), .val (.int (23 : Int32)), .val (.int (7 : Int32)), .val (.int (34 : Int32))]) rfl ?_
  refine ak0 X4 hx (hb hby bc9) rfl ?_
  refine ae1 (fun _ => X4.ldcInt hx hown (mvT hZ (z_w hw 109 rfl)) (g := (mkF m 36 #[.val (.ref o0), .val (.int (23 : Int32)), .val (.int (16 : Int32)), .val (.int (23 : Int32)), .val (.int (7 : Int32)), .val (.int (34 : Int32))] [(.int (34 : Int32))])) rfl (hb hby bd9) _) ?_
  show ac0 p e below P (T4.setTop (mkF m 38 #[.val (.ref o0), .val (.int (23 : Int32)), .val (.int (16 : Int32)), .val (.int (23 : Int32)), .val (.int (7 : Int32)), .val (.int (34 : Int32))] [(.int (2147483647 : Int32)), (.int (34 : Int32))]))
  refine au0 X4 hx (pc' := 51) (hb hby be9) (feq (by decide : ¬ ((34 : Int32) = (2147483647 : Int32)))).2 ?_
  refine ak0 X4 hx (hb hby bf9) rfl ?_
  refine ab0 X4 hx (hb hby bg9) rfl rfl ?_
  refine ak1 X4 hx hZ hown (host := "") (Or.inl (z_w hw 42 rfl)) Via.refl eq4 ai0 (hb hby bh9) (fun T5 X5 e5 => ?_)
  refine al8 X5 hx (hb hby bi9) (z := ((34 : Int32) >>> ((0 : Int32) &&& 31))) rfl ?_
  rw [show ((34 : Int32) >>> ((0 : Int32) &&& 31)) = (34 : Int32) from by decide]
  show ac0 p e below P (T5.setTop (mkF m 58 #[.val (.ref o0), .val (.int (23 : Int32)), .val (.int (16 : Int32)), .val (.int (23 : Int32)), .val (.int (7 : Int32)), .val (.int (34 : Int32))] [(.int (34 : Int32))]))
  exact aq4 X5 hx hlk hP hrt (hb hby bj9) (by decide) (by decide) ⟨rfl, N4, e5⟩
theorem dv1 (m : MethodId) (o0 : Addr) : entryFrame m #[(.ref o0), (.int (23 : Int32))] 3 = mkF m 0 #[.val (.ref o0), .val (.int (23 : Int32)), .unset] [] := by first | (simp [entryFrame, mkF, argsToLocals, Value.category]; done) | rfl
set_option maxRecDepth 65536 in
set_option maxHeartbeats 40000000 in
theorem dk7 (l : Launch) (Z : State) (a0 : Array Value) (hw : ∀ d ∈ tables_1, d.before a0 Z = true) (ws : List Jvm.Cond) (o0 : Addr) (ad0 : Addr) (h0 : Heap) (n0 : Nat) (Z0 : n0 ≤ h0.size) (E_o0 : Exa Z h0 o0 z_s2) (al0 : Fld Z h0 o0 z_s0 "value" "[B" (.ref ad0)) (ai0 : Fld Z h0 o0 z_s0 "coder" "B" (.int (0 : Int32))) (ay0 : Fld Z h0 o0 z_s0 "count" "I" (.int (6 : Int32))) (aj0 : ao0 Z h0 ad0 16) (ab1 : n0 ≤ o0) (aw0 : o0 ≠ ad0) :
    as0 l Z (⟨z_s0, z_s6, "(I)V"⟩ : MethodName) jdk_68_method_9_code 3 none ws ({ frames := 3, cells := 1, slots := 34, locals := 55 } : Room) #[(.ref o0), (.int (23 : Int32))] h0 (fun (v : Option Value) (h : Heap) (L : List Loc) => ∃ (b1_6 : Addr), v = none ∧ Fr n0 L ∧ Keep h0 h [o0] ∧ h0.size ≤ b1_6 ∧ n0 ≤ b1_6 ∧ Exa Z h o0 z_s2 ∧ Fld Z h o0 z_s0 "value" "[B" (.ref b1_6) ∧ Fld Z h o0 z_s0 "coder" "B" (.int (0 : Int32)) ∧ Fld Z h o0 z_s0 "count" "I" (.int (6 : Int32)) ∧ ao0 Z h b1_6 34) := by
  refine aq0 (plainFor_of_name ap0) ?_
  intro p e s m below meth c s₁ P hx hby hml hrt hlk hown hnm hZ X0 e0 hP
  have N0 := Fr.nil n0
  have K0 := Keep.refl h0 [o0]
  have hml' : c.maxLocals = 3 := hml
  refine ar0 (dv1 m o0) ?_
  show ac0 p e below P (s₁.setTop (mkF m 0 #[.val (.ref o0), .val (.int (23 : Int32)), .unset] []))
  refine ab0 X0 hx (hb hby bg2) rfl rfl ?_
  refine ak1 X0 hx hZ hown (host := "") (Or.inl (z_w hw 40 rfl)) Via.refl e0 al0 (hb hby bh2) (fun T1 X1 e1 => ?_)
  refine ao3 X1 hx hZ e1 aj0 (j := (16 : Int32)) (by decide) (hb hby bi2) ?_
  refine ab0 X1 hx (hb hby bj2) rfl rfl ?_
  refine ak1 X1 hx hZ hown (host := "") (Or.inl (z_w hw 42 rfl)) Via.refl e1 ai0 (hb hby bk2) (fun T2 X2 e2 => ?_)
  refine al8 X2 hx (hb hby bl2) (z := ((16 : Int32) >>> ((0 : Int32) &&& 31))) rfl ?_
  rw [show ((16 : Int32) >>> ((0 : Int32) &&& 31)) = (16 : Int32) from by decide]
  show ac0 p e below P (T2.setTop (mkF m 10 #[.val (.ref o0), .val (.int (23 : Int32)), .unset] [(.int (16 : Int32))]))
  refine aj2 X2 hx (hb hby as9) (l' := #[.val (.ref o0), .val (.int (23 : Int32)), .val (.int (16 : Int32))]) rfl ?_
  refine ae0 X2 hx (hb hby at9) rfl ?_
  refine ae0 X2 hx (hb hby au9) rfl ?_
  refine ar2 X2 hx (hb hby av9) (z := (7 : Int32)) rfl ?_
  refine aa3 X2 hx (hb hby aw9) ((if0 _ _).trans (tlt (by decide : (0 : Int32) < (7 : Int32))).2.2.2) ?_
  refine ab0 X2 hx (hb hby bk9) rfl rfl ?_
  refine ab0 X2 hx (hb hby bl9) rfl rfl ?_
  refine ak1 X2 hx hZ hown (host := "") (Or.inl (z_w hw 40 rfl)) Via.refl e2 al0 (hb hby bm9) (fun T3 X3 e3 => ?_)
  refine ab0 X3 hx (hb hby bn9) rfl rfl ?_
  refine ae0 X3 hx (hb hby bo9) rfl ?_
  refine a5 X3 hx hZ (y := (⟨z_s0, "newCapacity", "(I)I"⟩ : MethodName)) (z := (⟨z_s0, z_s6, "(I)V"⟩ : MethodName)) hown (z_w hw 95 rfl) (z_w hw 96 rfl) rfl (z_w hw 72 rfl) (z_w hw 97 rfl) (z_w hw 36 rfl) (z_w hw 99 rfl) E_o0 (dj7 l Z a0 hw [] o0 ad0 h0 n0 (Nat.le_trans Z0 K0.1) E_o0 al0 ai0 aj0) 2 e3 hml' (argsL := [(.int (23 : Int32))]) (rest := [(.ref ad0), (.ref o0)]) (lenOf bz6 rfl) (hb hby bp9) (fun r4 T4 L4 X4 hQ4 => ?_)
  obtain ⟨rfl, Nq4, eq4⟩ := hQ4
  have N4 := Fr.app N0 Nq4
  show ac0 p e below P (T4.setTop (mkF m 27 #[.val (.ref o0), .val (.int (23 : Int32)), .val (.int (16 : Int32))] [(.int (34 : Int32)), (.ref ad0), (.ref o0)]))
  refine ab0 X4 hx (hb hby bq9) rfl rfl ?_
  refine ak1 X4 hx hZ hown (host := "") (Or.inl (z_w hw 42 rfl)) Via.refl eq4 ai0 (hb hby br9) (fun T5 X5 e5 => ?_)
  refine aa9 X5 hx (hb hby bs9) (z := ((34 : Int32) <<< ((0 : Int32) &&& 31))) rfl ?_
  rw [show ((34 : Int32) <<< ((0 : Int32) &&& 31)) = (34 : Int32) from by decide]
  show ac0 p e below P (T5.setTop (mkF m 32 #[.val (.ref o0), .val (.int (23 : Int32)), .val (.int (16 : Int32))] [(.int (34 : Int32)), (.ref ad0), (.ref o0)]))
  refine af1 X5 hx hZ (y := (⟨z_s5, "copyOf", "([BI)[B"⟩ : MethodName)) hown (z_w hw 110 rfl) (z_w hw 111 rfl) (z_w hw 112 rfl) (z_w hw 113 rfl) (cs4 l Z a0 hw [] ad0  h0 n0 (Nat.le_trans Z0 K0.1) aj0) 1 e5 hml' (argsL := [(.ref ad0), (.int (34 : Int32))]) (rest := [(.ref o0)]) (lenOf bz4 rfl) (hb hby bt9) (fun r6 T6 L6 X6 hQ6 => ?_)
  obtain ⟨b1_6, rfl, Nq6, Kq6, af9, bp7, f0_6⟩ := hQ6
  have N6 := Fr.app N4 Nq6
  have ne7 := z_nc E_o0.lt af9
  have ne8 := z_nc aj0.lt af9
  have cl1 := Nat.le_trans K0.1 af9
  have K6 := Keep.trans K0 Kq6 all0
  show ac0 p e below P (T6.setTop (mkF m 35 #[.val (.ref o0), .val (.int (23 : Int32)), .val (.int (16 : Int32))] [(.ref b1_6), (.ref o0)]))
  have G9 := (al0.keep Kq6 nin0)
  have G10 := (E_o0.keep Kq6)
  refine aj7 X6 hx hZ hown (host := "") (Or.inl (z_w hw 40 rfl)) Via.refl rfl G9 G10 (Or.inl (z_w hw 41 rfl)) (z_w hw 27 rfl) (ty := (.array .byte)) (by decide) (hb hby bu9) (fun T11 h11 X11 e11 W11 => ?_)
  have N11 := Fr.snoc X11 N6 ab1
  have K11 := Keep.wr K6 W11 (Or.inl (List.mem_of_getElem? (i := 0) rfl))
  have F11 := G9.same W11
  have G12 := (G10.wr W11)
  have G13 := ((ai0.keep Kq6 nin0).other W11 (Or.inr (slot_ne (Or.inl (z_w hw 43 rfl)) (Or.inl (z_w hw 41 rfl)) (by decide) (t := .byte) (t' := (.array .byte)) (by decide) (by decide))))
  have G14 := ((ay0.keep Kq6 nin0).other W11 (Or.inr (slot_ne (Or.inl (z_w hw 68 rfl)) (Or.inl (z_w hw 41 rfl)) (by decide) (t := .int) (t' := (.array .byte)) (by decide) (by decide))))
  have G15 := (f0_6.other W11 ne7.symm)
  have hfin : ((fun (v : Option Value) (h : Heap) (L : List Loc) => ∃ (b1_6 : Addr), v = none ∧ Fr n0 L ∧ Keep h0 h [o0] ∧ h0.size ≤ b1_6 ∧ n0 ≤ b1_6 ∧ Exa Z h o0 z_s2 ∧ Fld Z h o0 z_s0 "value" "[B" (.ref b1_6) ∧ Fld Z h o0 z_s0 "coder" "B" (.int (0 : Int32)) ∧ Fld Z h o0 z_s0 "count" "I" (.int (6 : Int32)) ∧ ao0 Z h b1_6 34)) none h11 _ := ⟨b1_6, rfl, N11, K11, cl1, bp7, G12, F11, G13, G14, G15⟩
  refine at1 X11 hx hlk hP hrt (hb hby ax9) (by decide) (by decide) ?_
  rw [e11]; exact hfin
theorem dw1 (m : MethodId)  : entryFrame m #[(.int (16 : Int32)), (.int (8 : Int32)), (.int (18 : Int32))] 4 = mkF m 0 #[.val (.int (16 : Int32)), .val (.int (8 : Int32)), .val (.int (18 : Int32)), .unset] [] := by first | (simp [entryFrame, mkF, argsToLocals, Value.category]; done) | rfl
set_option maxRecDepth 65536 in
set_option maxHeartbeats 40000000 in
theorem dl7 (l : Launch) (Z : State) (a0 : Array Value) (hw : ∀ d ∈ tables_1, d.before a0 Z = true) (ws : List Jvm.Cond)   (h0 : Heap) (n0 : Nat) (Z0 : n0 ≤ h0.size)  :
    as0 l Z (⟨"jdk/internal/util/ArraysSupport", "newLength", "(III)I"⟩ : MethodName) jdk_48_method_27_code 4 (some .int) ws ({ frames := 1, cells := 0, slots := 0, locals := 14 } : Room) #[(.int (16 : Int32)), (.int (8 : Int32)), (.int (18 : Int32))] h0 (fun (v : Option Value) (h : Heap) (L : List Loc) => v = some (.int (34 : Int32)) ∧ Fr n0 L ∧ h = h0) := by
  refine aq0 (plainFor_of_name ac5) ?_
  intro p e s m below meth c s₁ P hx hby hml hrt hlk hown hnm hZ X0 e0 hP
  have N0 := Fr.nil n0
  have K0 := Keep.refl h0 []
  have hml' : c.maxLocals = 4 := hml
  refine ar0 (dw1 m ) ?_
  show ac0 p e below P (s₁.setTop (mkF m 0 #[.val (.int (16 : Int32)), .val (.int (8 : Int32)), .val (.int (18 : Int32)), .unset] []))
  refine ae0 X0 hx (hb hby cq1) rfl ?_
  refine ae0 X0 hx (hb hby cr1) rfl ?_
  refine ae0 X0 hx (hb hby cs1) rfl ?_
  refine af1 X0 hx hZ (y := (⟨"java/lang/Math", "max", "(II)I"⟩ : MethodName)) hown (z_w hw 104 rfl) (z_w hw 105 rfl) (z_w hw 106 rfl) (z_w hw 107 rfl) (cr4 l Z a0 hw [] (8 : Int32) (18 : Int32)  h0 n0 (Nat.le_trans Z0 K0.1) ) 1 e0 hml' (argsL := [(.int (8 : Int32)), (.int (18 : Int32))]) (rest := [(.int (16 : Int32))]) (lenOf ap2 rfl) (hb hby ct1) (fun r1 T1 L1 X1 hQ1 => ?_)
  obtain ⟨rfl, Nq1, eq1⟩ := hQ1
  have N1 := Fr.app N0 Nq1
  show ac0 p e below P (T1.setTop (mkF m 6 #[.val (.int (16 : Int32)), .val (.int (8 : Int32)), .val (.int (18 : Int32)), .unset] [(.int (ar9 (8 : Int32) (18 : Int32))), (.int (16 : Int32))]))
  rw [show (ar9 (8 : Int32) (18 : Int32)) = (18 : Int32) from by decide]
  show ac0 p e below P (T1.setTop (mkF m 6 #[.val (.int (16 : Int32)), .val (.int (8 : Int32)), .val (.int (18 : Int32)), .unset] [(.int (18 : Int32)), (.int (16 : Int32))]))
  refine am2 X1 hx (hb hby cu1) (z := (34 : Int32)) rfl ?_
  refine aj2 X1 hx (hb hby cv1) (l' := #[.val (.int (16 : Int32)), .val (.int (8 : Int32)), .val (.int (18 : Int32)), .val (.int (34 : Int32))]) rfl ?_
  refine am0 X1 hx (hb hby cw1) (z := (0 : Int32)) rfl ?_
  refine ae0 X1 hx (hb hby cx1) rfl ?_
  refine av0 X1 hx (hb hby bh8) (tlt (by decide : (0 : Int32) < (34 : Int32))).2.1 ?_
  refine ae0 X1 hx (hb hby bi8) rfl ?_
  refine ae1 (fun _ => X1.ldcInt hx hown (mvT hZ (z_w hw 108 rfl)) (g := (mkF m 14 #[.val (.int (16 : Int32)), .val (.int (8 : Int32)), .val (.int (18 : Int32)), .val (.int (34 : Int32))] [(.int (34 : Int32))])) rfl (hb hby bj8) _) ?_
  show ac0 p e below P (T1.setTop (mkF m 16 #[.val (.int (16 : Int32)), .val (.int (8 : Int32)), .val (.int (18 : Int32)), .val (.int (34 : Int32))] [(.int (2147483639 : Int32)), (.int (34 : Int32))]))
  refine av0 X1 hx (hb hby bk8) (flt (by decide : ¬ ((2147483639 : Int32) < (34 : Int32)))).2.2.1 ?_
  refine ae0 X1 hx (hb hby bl8) rfl ?_
  exact aq4 X1 hx hlk hP hrt (hb hby bm8) (by decide) (by decide) ⟨rfl, N1, eq1⟩
theorem dx1 (m : MethodId) (o0 : Addr) : entryFrame m #[(.ref o0), (.int (24 : Int32))] 6 = mkF m 0 #[.val (.ref o0), .val (.int (24 : Int32)), .unset, .unset, .unset, .unset] [] := by first | (simp [entryFrame, mkF, argsToLocals, Value.category]; done) | rfl
set_option maxRecDepth 65536 in
set_option maxHeartbeats 40000000 in
theorem dm7 (l : Launch) (Z : State) (a0 : Array Value) (hw : ∀ d ∈ tables_1, d.before a0 Z = true) (ws : List Jvm.Cond) (o0 : Addr) (ad0 : Addr) (h0 : Heap) (n0 : Nat) (Z0 : n0 ≤ h0.size) (E_o0 : Exa Z h0 o0 z_s2) (al0 : Fld Z h0 o0 z_s0 "value" "[B" (.ref ad0)) (ai0 : Fld Z h0 o0 z_s0 "coder" "B" (.int (0 : Int32))) (aj0 : ao0 Z h0 ad0 16) :
    as0 l Z (⟨z_s0, "newCapacity", "(I)I"⟩ : MethodName) jdk_68_method_10_code 6 (some .int) ws ({ frames := 2, cells := 0, slots := 0, locals := 29 } : Room) #[(.ref o0), (.int (24 : Int32))] h0 (fun (v : Option Value) (h : Heap) (L : List Loc) => v = some (.int (34 : Int32)) ∧ Fr n0 L ∧ h = h0) := by
  refine aq0 (plainFor_of_name ap0) ?_
  intro p e s m below meth c s₁ P hx hby hml hrt hlk hown hnm hZ X0 e0 hP
  have N0 := Fr.nil n0
  have K0 := Keep.refl h0 []
  have hml' : c.maxLocals = 6 := hml
  refine ar0 (dx1 m o0) ?_
  show ac0 p e below P (s₁.setTop (mkF m 0 #[.val (.ref o0), .val (.int (24 : Int32)), .unset, .unset, .unset, .unset] []))
  refine ab0 X0 hx (hb hby cy1) rfl rfl ?_
  refine ak1 X0 hx hZ hown (host := "") (Or.inl (z_w hw 40 rfl)) Via.refl e0 al0 (hb hby cz1) (fun T1 X1 e1 => ?_)
  refine ao3 X1 hx hZ e1 aj0 (j := (16 : Int32)) (by decide) (hb hby ca2) ?_
  refine aj2 X1 hx (hb hby cb2) (l' := #[.val (.ref o0), .val (.int (24 : Int32)), .val (.int (16 : Int32)), .unset, .unset, .unset]) rfl ?_
  refine ae0 X1 hx (hb hby cc2) rfl ?_
  refine ab0 X1 hx (hb hby cd2) rfl rfl ?_
  refine ak1 X1 hx hZ hown (host := "") (Or.inl (z_w hw 42 rfl)) Via.refl e1 ai0 (hb hby ce2) (fun T2 X2 e2 => ?_)
  refine aa9 X2 hx (hb hby bn8) (z := ((24 : Int32) <<< ((0 : Int32) &&& 31))) rfl ?_
  rw [show ((24 : Int32) <<< ((0 : Int32) &&& 31)) = (24 : Int32) from by decide]
  show ac0 p e below P (T2.setTop (mkF m 12 #[.val (.ref o0), .val (.int (24 : Int32)), .val (.int (16 : Int32)), .unset, .unset, .unset] [(.int (24 : Int32))]))
  refine aj2 X2 hx (hb hby bo8) (l' := #[.val (.ref o0), .val (.int (24 : Int32)), .val (.int (16 : Int32)), .val (.int (24 : Int32)), .unset, .unset]) rfl ?_
  refine ae0 X2 hx (hb hby bp8) rfl ?_
  refine ae0 X2 hx (hb hby bq8) rfl ?_
  refine ar2 X2 hx (hb hby br8) (z := (8 : Int32)) rfl ?_
  refine ai1 X2 hx (hb hby bs8) (l' := #[.val (.ref o0), .val (.int (24 : Int32)), .val (.int (16 : Int32)), .val (.int (24 : Int32)), .val (.int (8 : Int32)), .unset]) rfl ?_
  refine ae0 X2 hx (hb hby bt8) rfl ?_
  refine ak0 X2 hx (hb hby bu8) rfl ?_
  refine ae0 X2 hx (hb hby bv8) rfl ?_
  refine am0 X2 hx (hb hby bw8) (z := (2 : Int32)) rfl ?_
  refine ab0 X2 hx (hb hby bx8) rfl rfl ?_
  refine ak1 X2 hx hZ hown (host := "") (Or.inl (z_w hw 42 rfl)) Via.refl e2 ai0 (hb hby by8) (fun T3 X3 e3 => ?_)
  refine aa9 X3 hx (hb hby bz8) (z := ((2 : Int32) <<< ((0 : Int32) &&& 31))) rfl ?_
  rw [show ((2 : Int32) <<< ((0 : Int32) &&& 31)) = (2 : Int32) from by decide]
  show ac0 p e below P (T3.setTop (mkF m 28 #[.val (.ref o0), .val (.int (24 : Int32)), .val (.int (16 : Int32)), .val (.int (24 : Int32)), .val (.int (8 : Int32)), .unset] [(.int (2 : Int32)), (.int (16 : Int32)), (.int (8 : Int32)), (.int (16 : Int32))]))
  refine am2 X3 hx (hb hby b9) (z := (18 : Int32)) rfl ?_
  refine af1 X3 hx hZ (y := (⟨"jdk/internal/util/ArraysSupport", "newLength", "(III)I"⟩ : MethodName)) hown (z_w hw 100 rfl) (z_w hw 101 rfl) (z_w hw 102 rfl) (z_w hw 103 rfl) (dl7 l Z a0 hw []   h0 n0 (Nat.le_trans Z0 K0.1) ) 0 e3 hml' (argsL := [(.int (16 : Int32)), (.int (8 : Int32)), (.int (18 : Int32))]) (rest := []) (lenOf by4 rfl) (hb hby ba9) (fun r4 T4 L4 X4 hQ4 => ?_)
  obtain ⟨rfl, Nq4, eq4⟩ := hQ4
  have N4 := Fr.app N0 Nq4
  show ac0 p e below P (T4.setTop (mkF m 32 #[.val (.ref o0), .val (.int (24 : Int32)), .val (.int (16 : Int32)), .val (.int (24 : Int32)), .val (.int (8 : Int32)), .unset] [(.int (34 : Int32))]))
  refine ai1 X4 hx (hb hby bb9) (l' := #[.val (.ref o0), .val (.int (24 : Int32)), .val (.int (16 : Int32)), .val (.int (24 : Int32)), .val (.int (8 : Int32)), .val (.int (34 : Int32))]) rfl ?_
  refine ak0 X4 hx (hb hby bc9) rfl ?_
  refine ae1 (fun _ => X4.ldcInt hx hown (mvT hZ (z_w hw 109 rfl)) (g := (mkF m 36 #[.val (.ref o0), .val (.int (24 : Int32)), .val (.int (16 : Int32)), .val (.int (24 : Int32)), .val (.int (8 : Int32)), .val (.int (34 : Int32))] [(.int (34 : Int32))])) rfl (hb hby bd9) _) ?_
  show ac0 p e below P (T4.setTop (mkF m 38 #[.val (.ref o0), .val (.int (24 : Int32)), .val (.int (16 : Int32)), .val (.int (24 : Int32)), .val (.int (8 : Int32)), .val (.int (34 : Int32))] [(.int (2147483647 : Int32)), (.int (34 : Int32))]))
  refine au0 X4 hx (pc' := 51) (hb hby be9) (feq (by decide : ¬ ((34 : Int32) = (2147483647 : Int32)))).2 ?_
  refine ak0 X4 hx (hb hby bf9) rfl ?_
  refine ab0 X4 hx (hb hby bg9) rfl rfl ?_
  refine ak1 X4 hx hZ hown (host := "") (Or.inl (z_w hw 42 rfl)) Via.refl eq4 ai0 (hb hby bh9) (fun T5 X5 e5 => ?_)
  refine al8 X5 hx (hb hby bi9) (z := ((34 : Int32) >>> ((0 : Int32) &&& 31))) rfl ?_
  rw [show ((34 : Int32) >>> ((0 : Int32) &&& 31)) = (34 : Int32) from by decide]
  show ac0 p e below P (T5.setTop (mkF m 58 #[.val (.ref o0), .val (.int (24 : Int32)), .val (.int (16 : Int32)), .val (.int (24 : Int32)), .val (.int (8 : Int32)), .val (.int (34 : Int32))] [(.int (34 : Int32))]))
  exact aq4 X5 hx hlk hP hrt (hb hby bj9) (by decide) (by decide) ⟨rfl, N4, e5⟩
theorem dy1 (m : MethodId) (o0 : Addr) : entryFrame m #[(.ref o0), (.int (24 : Int32))] 3 = mkF m 0 #[.val (.ref o0), .val (.int (24 : Int32)), .unset] [] := by first | (simp [entryFrame, mkF, argsToLocals, Value.category]; done) | rfl
set_option maxRecDepth 65536 in
set_option maxHeartbeats 40000000 in
theorem dn7 (l : Launch) (Z : State) (a0 : Array Value) (hw : ∀ d ∈ tables_1, d.before a0 Z = true) (ws : List Jvm.Cond) (o0 : Addr) (ad0 : Addr) (h0 : Heap) (n0 : Nat) (Z0 : n0 ≤ h0.size) (E_o0 : Exa Z h0 o0 z_s2) (al0 : Fld Z h0 o0 z_s0 "value" "[B" (.ref ad0)) (ai0 : Fld Z h0 o0 z_s0 "coder" "B" (.int (0 : Int32))) (ay0 : Fld Z h0 o0 z_s0 "count" "I" (.int (7 : Int32))) (aj0 : ao0 Z h0 ad0 16) (ab1 : n0 ≤ o0) (aw0 : o0 ≠ ad0) :
    as0 l Z (⟨z_s0, z_s6, "(I)V"⟩ : MethodName) jdk_68_method_9_code 3 none ws ({ frames := 3, cells := 1, slots := 34, locals := 55 } : Room) #[(.ref o0), (.int (24 : Int32))] h0 (fun (v : Option Value) (h : Heap) (L : List Loc) => ∃ (b1_6 : Addr), v = none ∧ Fr n0 L ∧ Keep h0 h [o0] ∧ h0.size ≤ b1_6 ∧ n0 ≤ b1_6 ∧ Exa Z h o0 z_s2 ∧ Fld Z h o0 z_s0 "value" "[B" (.ref b1_6) ∧ Fld Z h o0 z_s0 "coder" "B" (.int (0 : Int32)) ∧ Fld Z h o0 z_s0 "count" "I" (.int (7 : Int32)) ∧ ao0 Z h b1_6 34) := by
  refine aq0 (plainFor_of_name ap0) ?_
  intro p e s m below meth c s₁ P hx hby hml hrt hlk hown hnm hZ X0 e0 hP
  have N0 := Fr.nil n0
  have K0 := Keep.refl h0 [o0]
  have hml' : c.maxLocals = 3 := hml
  refine ar0 (dy1 m o0) ?_
  show ac0 p e below P (s₁.setTop (mkF m 0 #[.val (.ref o0), .val (.int (24 : Int32)), .unset] []))
  refine ab0 X0 hx (hb hby bg2) rfl rfl ?_
  refine ak1 X0 hx hZ hown (host := "") (Or.inl (z_w hw 40 rfl)) Via.refl e0 al0 (hb hby bh2) (fun T1 X1 e1 => ?_)
  refine ao3 X1 hx hZ e1 aj0 (j := (16 : Int32)) (by decide) (hb hby bi2) ?_
  refine ab0 X1 hx (hb hby bj2) rfl rfl ?_
  refine ak1 X1 hx hZ hown (host := "") (Or.inl (z_w hw 42 rfl)) Via.refl e1 ai0 (hb hby bk2) (fun T2 X2 e2 => ?_)
  refine al8 X2 hx (hb hby bl2) (z := ((16 : Int32) >>> ((0 : Int32) &&& 31))) rfl ?_
  rw [show ((16 : Int32) >>> ((0 : Int32) &&& 31)) = (16 : Int32) from by decide]
  show ac0 p e below P (T2.setTop (mkF m 10 #[.val (.ref o0), .val (.int (24 : Int32)), .unset] [(.int (16 : Int32))]))
  refine aj2 X2 hx (hb hby as9) (l' := #[.val (.ref o0), .val (.int (24 : Int32)), .val (.int (16 : Int32))]) rfl ?_
  refine ae0 X2 hx (hb hby at9) rfl ?_
  refine ae0 X2 hx (hb hby au9) rfl ?_
  refine ar2 X2 hx (hb hby av9) (z := (8 : Int32)) rfl ?_
  refine aa3 X2 hx (hb hby aw9) ((if0 _ _).trans (tlt (by decide : (0 : Int32) < (8 : Int32))).2.2.2) ?_
  refine ab0 X2 hx (hb hby bk9) rfl rfl ?_
  refine ab0 X2 hx (hb hby bl9) rfl rfl ?_
  refine ak1 X2 hx hZ hown (host := "") (Or.inl (z_w hw 40 rfl)) Via.refl e2 al0 (hb hby bm9) (fun T3 X3 e3 => ?_)
  refine ab0 X3 hx (hb hby bn9) rfl rfl ?_
  refine ae0 X3 hx (hb hby bo9) rfl ?_
  refine a5 X3 hx hZ (y := (⟨z_s0, "newCapacity", "(I)I"⟩ : MethodName)) (z := (⟨z_s0, z_s6, "(I)V"⟩ : MethodName)) hown (z_w hw 95 rfl) (z_w hw 96 rfl) rfl (z_w hw 72 rfl) (z_w hw 97 rfl) (z_w hw 36 rfl) (z_w hw 99 rfl) E_o0 (dm7 l Z a0 hw [] o0 ad0 h0 n0 (Nat.le_trans Z0 K0.1) E_o0 al0 ai0 aj0) 2 e3 hml' (argsL := [(.int (24 : Int32))]) (rest := [(.ref ad0), (.ref o0)]) (lenOf bz6 rfl) (hb hby bp9) (fun r4 T4 L4 X4 hQ4 => ?_)
  obtain ⟨rfl, Nq4, eq4⟩ := hQ4
  have N4 := Fr.app N0 Nq4
  show ac0 p e below P (T4.setTop (mkF m 27 #[.val (.ref o0), .val (.int (24 : Int32)), .val (.int (16 : Int32))] [(.int (34 : Int32)), (.ref ad0), (.ref o0)]))
  refine ab0 X4 hx (hb hby bq9) rfl rfl ?_
  refine ak1 X4 hx hZ hown (host := "") (Or.inl (z_w hw 42 rfl)) Via.refl eq4 ai0 (hb hby br9) (fun T5 X5 e5 => ?_)
  refine aa9 X5 hx (hb hby bs9) (z := ((34 : Int32) <<< ((0 : Int32) &&& 31))) rfl ?_
  rw [show ((34 : Int32) <<< ((0 : Int32) &&& 31)) = (34 : Int32) from by decide]
  show ac0 p e below P (T5.setTop (mkF m 32 #[.val (.ref o0), .val (.int (24 : Int32)), .val (.int (16 : Int32))] [(.int (34 : Int32)), (.ref ad0), (.ref o0)]))
  refine af1 X5 hx hZ (y := (⟨z_s5, "copyOf", "([BI)[B"⟩ : MethodName)) hown (z_w hw 110 rfl) (z_w hw 111 rfl) (z_w hw 112 rfl) (z_w hw 113 rfl) (cs4 l Z a0 hw [] ad0  h0 n0 (Nat.le_trans Z0 K0.1) aj0) 1 e5 hml' (argsL := [(.ref ad0), (.int (34 : Int32))]) (rest := [(.ref o0)]) (lenOf bz4 rfl) (hb hby bt9) (fun r6 T6 L6 X6 hQ6 => ?_)
  obtain ⟨b1_6, rfl, Nq6, Kq6, af9, bp7, f0_6⟩ := hQ6
  have N6 := Fr.app N4 Nq6
  have ne7 := z_nc E_o0.lt af9
  have ne8 := z_nc aj0.lt af9
  have cl1 := Nat.le_trans K0.1 af9
  have K6 := Keep.trans K0 Kq6 all0
  show ac0 p e below P (T6.setTop (mkF m 35 #[.val (.ref o0), .val (.int (24 : Int32)), .val (.int (16 : Int32))] [(.ref b1_6), (.ref o0)]))
  have G9 := (al0.keep Kq6 nin0)
  have G10 := (E_o0.keep Kq6)
  refine aj7 X6 hx hZ hown (host := "") (Or.inl (z_w hw 40 rfl)) Via.refl rfl G9 G10 (Or.inl (z_w hw 41 rfl)) (z_w hw 27 rfl) (ty := (.array .byte)) (by decide) (hb hby bu9) (fun T11 h11 X11 e11 W11 => ?_)
  have N11 := Fr.snoc X11 N6 ab1
  have K11 := Keep.wr K6 W11 (Or.inl (List.mem_of_getElem? (i := 0) rfl))
  have F11 := G9.same W11
  have G12 := (G10.wr W11)
  have G13 := ((ai0.keep Kq6 nin0).other W11 (Or.inr (slot_ne (Or.inl (z_w hw 43 rfl)) (Or.inl (z_w hw 41 rfl)) (by decide) (t := .byte) (t' := (.array .byte)) (by decide) (by decide))))
  have G14 := ((ay0.keep Kq6 nin0).other W11 (Or.inr (slot_ne (Or.inl (z_w hw 68 rfl)) (Or.inl (z_w hw 41 rfl)) (by decide) (t := .int) (t' := (.array .byte)) (by decide) (by decide))))
  have G15 := (f0_6.other W11 ne7.symm)
  have hfin : ((fun (v : Option Value) (h : Heap) (L : List Loc) => ∃ (b1_6 : Addr), v = none ∧ Fr n0 L ∧ Keep h0 h [o0] ∧ h0.size ≤ b1_6 ∧ n0 ≤ b1_6 ∧ Exa Z h o0 z_s2 ∧ Fld Z h o0 z_s0 "value" "[B" (.ref b1_6) ∧ Fld Z h o0 z_s0 "coder" "B" (.int (0 : Int32)) ∧ Fld Z h o0 z_s0 "count" "I" (.int (7 : Int32)) ∧ ao0 Z h b1_6 34)) none h11 _ := ⟨b1_6, rfl, N11, K11, cl1, bp7, G12, F11, G13, G14, G15⟩
  refine at1 X11 hx hlk hP hrt (hb hby ax9) (by decide) (by decide) ?_
  rw [e11]; exact hfin
theorem bm2 : decode jdk_68_method_22_code 0 = .ok (.aload_n 1, 1) := by decide +kernel
theorem bn2 : decode jdk_68_method_22_code 1 = .ok (.ifnonnull 8, 3) := by decide +kernel
theorem bo2 : decode jdk_68_method_22_code 9 = .ok (.aload_n 1, 1) := by decide +kernel
theorem ay9 : decode jdk_68_method_22_code 10 = .ok (.invokevirtual 32, 3) := by decide +kernel
theorem az4 : parseMethodDescriptor "()I" = some ⟨[], some .int⟩ := by decide +kernel
theorem az9 : decode jdk_68_method_22_code 13 = .ok (.istore_n 2, 1) := by decide +kernel
theorem b0 : decode jdk_68_method_22_code 14 = .ok (.aload_n 0, 1) := by decide +kernel
theorem ba0 : decode jdk_68_method_22_code 15 = .ok (.aload_n 0, 1) := by decide +kernel
theorem bb0 : decode jdk_68_method_22_code 16 = .ok (.getfield 79, 3) := by decide +kernel
theorem bc0 : decode jdk_68_method_22_code 19 = .ok (.iload_n 2, 1) := by decide +kernel
theorem bd0 : decode jdk_68_method_22_code 20 = .ok (.iadd, 1) := by decide +kernel
theorem be0 : decode jdk_68_method_22_code 21 = .ok (.invokevirtual 100, 3) := by decide +kernel
theorem bf0 : decode jdk_68_method_22_code 24 = .ok (.aload_n 0, 1) := by decide +kernel
theorem bg0 : decode jdk_68_method_22_code 25 = .ok (.aload_n 0, 1) := by decide +kernel
theorem bh0 : decode jdk_68_method_22_code 26 = .ok (.getfield 79, 3) := by decide +kernel
theorem bi0 : decode jdk_68_method_22_code 29 = .ok (.aload_n 1, 1) := by decide +kernel
theorem bj0 : decode jdk_68_method_22_code 30 = .ok (.invokevirtual 208, 3) := by decide +kernel
theorem ab3 : parseMethodDescriptor "(ILjava/lang/String;)V" = some ⟨[.int, (.object z_s1)], none⟩ := by decide +kernel
theorem bk0 : decode jdk_68_method_22_code 33 = .ok (.aload_n 0, 1) := by decide +kernel
theorem bl0 : decode jdk_68_method_22_code 34 = .ok (.dup, 1) := by decide +kernel
theorem bm0 : decode jdk_68_method_22_code 35 = .ok (.getfield 79, 3) := by decide +kernel
theorem bn0 : decode jdk_68_method_22_code 38 = .ok (.iload_n 2, 1) := by decide +kernel
theorem bo0 : decode jdk_68_method_22_code 39 = .ok (.iadd, 1) := by decide +kernel
theorem bp0 : decode jdk_68_method_22_code 40 = .ok (.putfield 79, 3) := by decide +kernel
theorem bq0 : decode jdk_68_method_22_code 43 = .ok (.aload_n 0, 1) := by decide +kernel
theorem br0 : decode jdk_68_method_22_code 44 = .ok (.areturn, 1) := by decide +kernel
theorem cy6 (m : MethodId) (o0 : Addr) (o1 : Addr) : entryFrame m #[(.ref o0), (.ref o1)] 3 = mkF m 0 #[.val (.ref o0), .val (.ref o1), .unset] [] := by first | (simp [entryFrame, mkF, argsToLocals, Value.category]; done) | rfl
set_option maxRecDepth 65536 in
set_option maxHeartbeats 40000000 in
theorem dz1 (l : Launch) (Z : State) (a0 : Array Value) (hw : ∀ d ∈ tables_1, d.before a0 Z = true) (ws : List Jvm.Cond) (o0 : Addr) (o1 : Addr) (ad0 : Addr) (ah0 : Addr) (aa0 : Int32) (h0 : Heap) (n0 : Nat) (Z0 : n0 ≤ h0.size) (E_o0 : Exa Z h0 o0 z_s2) (E_o1 : Exa Z h0 o1 z_s1) (al0 : Fld Z h0 o0 z_s0 "value" "[B" (.ref ad0)) (ai0 : Fld Z h0 o0 z_s0 "coder" "B" (.int (0 : Int32))) (ay0 : Fld Z h0 o0 z_s0 "count" "I" (.int (0 : Int32))) (ac1 : Fld Z h0 o1 z_s1 "value" "[B" (.ref ah0)) (aa1 : Fld Z h0 o1 z_s1 "coder" "B" (.int (0 : Int32))) (af0 : Sta Z h0 z_s1 z_s8 "Z" (.int aa0)) (aj0 : ao0 Z h0 ad0 16) (at0 : ao0 Z h0 ah0 5) (ab1 : n0 ≤ o0) (av1 : n0 ≤ ad0) (aw0 : o0 ≠ ad0) (az1 : o0 ≠ o1) (ad1 : o0 ≠ ah0) (ax2 : ad0 ≠ o1) (ax1 : ad0 ≠ ah0) (hnz : ¬ (aa0 = (0 : Int32))) :
    as0 l Z (⟨z_s0, "append", z_s9⟩ : MethodName) jdk_68_method_22_code 3 (some (.object z_s0)) ws ({ frames := 3, cells := 0, slots := 0, locals := 69 } : Room) #[(.ref o0), (.ref o1)] h0 (fun (v : Option Value) (h : Heap) (L : List Loc) => v = some (.ref o0) ∧ Fr n0 L ∧ Keep h0 h [o0, ad0] ∧ Exa Z h o0 z_s2 ∧ Fld Z h o0 z_s0 "value" "[B" (.ref ad0) ∧ Fld Z h o0 z_s0 "coder" "B" (.int (0 : Int32)) ∧ Fld Z h o0 z_s0 "count" "I" (.int (5 : Int32)) ∧ ao0 Z h ad0 16) := by
  refine aq0 (plainFor_of_name ap0) ?_
  intro p e s m below meth c s₁ P hx hby hml hrt hlk hown hnm hZ X0 e0 hP
  have N0 := Fr.nil n0
  have K0 := Keep.refl h0 [o0, ad0]
  have hml' : c.maxLocals = 3 := hml
  refine ar0 (cy6 m o0 o1) ?_
  show ac0 p e below P (s₁.setTop (mkF m 0 #[.val (.ref o0), .val (.ref o1), .unset] []))
  refine ab0 X0 hx (hb hby bm2) rfl rfl ?_
  refine al7 X0 hx (pc' := 9) (hb hby bn2) ?_
  refine ab0 X0 hx (hb hby bo2) rfl rfl ?_
  refine ag2 X0 hx hZ (y := (⟨z_s1, "length", "()I"⟩ : MethodName)) (z := (⟨z_s1, "length", "()I"⟩ : MethodName)) hown (z_w hw 54 rfl) (z_w hw 55 rfl) (notFace_of_selects (args := #[]) (mvT hZ (z_w hw 57 rfl))) (z_w hw 57 rfl) (z_w hw 56 rfl) (z_w hw 16 rfl) (z_w hw 58 rfl) E_o1 (dq6 l Z a0 hw [] o1 ah0 aa0 h0 n0 (Nat.le_trans Z0 K0.1) E_o1 ac1 aa1 af0 at0 hnz) 0 e0 hml' (argsL := []) (rest := []) (lenOf az4 rfl) (hb hby ay9) (fun r1 T1 L1 X1 hQ1 => ?_)
  obtain ⟨rfl, Nq1, eq1⟩ := hQ1
  have N1 := Fr.app N0 Nq1
  show ac0 p e below P (T1.setTop (mkF m 13 #[.val (.ref o0), .val (.ref o1), .unset] [(.int (5 : Int32))]))
  refine aj2 X1 hx (hb hby az9) (l' := #[.val (.ref o0), .val (.ref o1), .val (.int (5 : Int32))]) rfl ?_
  refine ab0 X1 hx (hb hby b0) rfl rfl ?_
  refine ab0 X1 hx (hb hby ba0) rfl rfl ?_
  refine ak1 X1 hx hZ hown (host := "") (Or.inl (z_w hw 67 rfl)) Via.refl eq1 ay0 (hb hby bb0) (fun T2 X2 e2 => ?_)
  refine ae0 X2 hx (hb hby bc0) rfl ?_
  refine am2 X2 hx (hb hby bd0) (z := (5 : Int32)) rfl ?_
  refine a5 X2 hx hZ (y := (⟨z_s0, z_s6, "(I)V"⟩ : MethodName)) (z := (⟨z_s0, z_s6, "(I)V"⟩ : MethodName)) hown (z_w hw 69 rfl) (z_w hw 70 rfl) rfl (z_w hw 72 rfl) (z_w hw 71 rfl) (z_w hw 36 rfl) (z_w hw 73 rfl) E_o0 (ep0 l Z a0 hw [] o0 ad0 h0 n0 (Nat.le_trans Z0 K0.1) E_o0 al0 ai0 aj0) 0 e2 hml' (argsL := [(.int (5 : Int32))]) (rest := []) (lenOf am7 rfl) (hb hby be0) (fun r3 T3 L3 X3 hQ3 => ?_)
  obtain ⟨rfl, Nq3, eq3⟩ := hQ3
  have N3 := Fr.app N1 Nq3
  show ac0 p e below P (T3.setTop (mkF m 24 #[.val (.ref o0), .val (.ref o1), .val (.int (5 : Int32))] []))
  refine ab0 X3 hx (hb hby bf0) rfl rfl ?_
  refine ab0 X3 hx (hb hby bg0) rfl rfl ?_
  refine ak1 X3 hx hZ hown (host := "") (Or.inl (z_w hw 67 rfl)) Via.refl eq3 ay0 (hb hby bh0) (fun T4 X4 e4 => ?_)
  refine ab0 X4 hx (hb hby bi0) rfl rfl ?_
  refine a5 X4 hx hZ (y := (⟨z_s0, "putStringAt", "(ILjava/lang/String;)V"⟩ : MethodName)) (z := (⟨z_s0, z_s6, "(I)V"⟩ : MethodName)) hown (z_w hw 74 rfl) (z_w hw 75 rfl) rfl (z_w hw 72 rfl) (z_w hw 76 rfl) (z_w hw 36 rfl) (z_w hw 78 rfl) E_o0 (dl1 l Z a0 hw [] o0 o1 ad0 ah0 aa0 h0 n0 (Nat.le_trans Z0 K0.1) E_o0 E_o1 al0 ai0 ac1 aa1 af0 at0 aj0 av1 aw0.symm ax2 ax1 hnz) 0 e4 hml' (argsL := [(.int (0 : Int32)), (.ref o1)]) (rest := []) (lenOf ab3 rfl) (hb hby bj0) (fun r5 T5 L5 X5 hQ5 => ?_)
  obtain ⟨rfl, Nq5, Kq5, f0_5⟩ := hQ5
  have N5 := Fr.app N3 Nq5
  have K5 := Keep.trans K0 Kq5 (allS (Or.inl (List.mem_of_getElem? (i := 1) rfl)) all0)
  show ac0 p e below P (T5.setTop (mkF m 33 #[.val (.ref o0), .val (.ref o1), .val (.int (5 : Int32))] []))
  refine ab0 X5 hx (hb hby bk0) rfl rfl ?_
  refine an6 X5 hx (hb hby bl0) rfl ?_
  have G6 := (ay0.keep Kq5 (ninS aw0 nin0))
  refine ak1 X5 hx hZ hown (host := "") (Or.inl (z_w hw 67 rfl)) Via.refl rfl G6 (hb hby bm0) (fun T7 X7 e7 => ?_)
  refine ae0 X7 hx (hb hby bn0) rfl ?_
  refine am2 X7 hx (hb hby bo0) (z := (5 : Int32)) rfl ?_
  have G8 := (E_o0.keep Kq5)
  refine aj7 X7 hx hZ hown (host := "") (Or.inl (z_w hw 67 rfl)) Via.refl e7 G6 G8 (Or.inl (z_w hw 68 rfl)) (z_w hw 27 rfl) (ty := .int) (by decide) (hb hby bp0) (fun T9 h9 X9 e9 W9 => ?_)
  have N9 := Fr.snoc X9 N5 ab1
  have K9 := Keep.wr K5 W9 (Or.inl (List.mem_of_getElem? (i := 0) rfl))
  have F9 := G6.same W9
  refine ab0 X9 hx (hb hby bq0) rfl rfl ?_
  have G10 := (G8.wr W9)
  have G11 := ((al0.keep Kq5 (ninS aw0 nin0)).other W9 (Or.inr (slot_ne (Or.inl (z_w hw 41 rfl)) (Or.inl (z_w hw 68 rfl)) (by decide) (t := (.array .byte)) (t' := .int) (by decide) (by decide))))
  have G12 := ((ai0.keep Kq5 (ninS aw0 nin0)).other W9 (Or.inr (slot_ne (Or.inl (z_w hw 43 rfl)) (Or.inl (z_w hw 68 rfl)) (by decide) (t := .byte) (t' := .int) (by decide) (by decide))))
  have G13 := (f0_5.other W9 aw0.symm)
  have hfin : ((fun (v : Option Value) (h : Heap) (L : List Loc) => v = some (.ref o0) ∧ Fr n0 L ∧ Keep h0 h [o0, ad0] ∧ Exa Z h o0 z_s2 ∧ Fld Z h o0 z_s0 "value" "[B" (.ref ad0) ∧ Fld Z h o0 z_s0 "coder" "B" (.int (0 : Int32)) ∧ Fld Z h o0 z_s0 "count" "I" (.int (5 : Int32)) ∧ ao0 Z h ad0 16)) (some (.ref o0)) h9 _ := ⟨rfl, N9, K9, G10, G11, G12, F9, G13⟩
  refine as1 X9 hx hlk hP rfl rfl hrt (hb hby br0) (by decide) (by decide) ?_
  rw [e9]; exact hfin
theorem bp2 : decode jdk_67_method_7_code 0 = .ok (.aload_n 0, 1) := by decide +kernel
theorem bq2 : decode jdk_67_method_7_code 1 = .ok (.aload_n 1, 1) := by decide +kernel
theorem br2 : decode jdk_67_method_7_code 2 = .ok (.invokespecial 29, 3) := by decide +kernel
theorem ap1 : parseMethodDescriptor z_s9 = some ⟨[(.object z_s1)], some (.object z_s0)⟩ := by decide +kernel
theorem bs2 : decode jdk_67_method_7_code 5 = .ok (.pop, 1) := by decide +kernel
theorem bt2 : decode jdk_67_method_7_code 6 = .ok (.aload_n 0, 1) := by decide +kernel
theorem bu2 : decode jdk_67_method_7_code 7 = .ok (.areturn, 1) := by decide +kernel
theorem cz6 (m : MethodId) (o0 : Addr) (o1 : Addr) : entryFrame m #[(.ref o0), (.ref o1)] 2 = mkF m 0 #[.val (.ref o0), .val (.ref o1)] [] := by first | (simp [entryFrame, mkF, argsToLocals, Value.category]; done) | rfl
set_option maxRecDepth 65536 in
set_option maxHeartbeats 40000000 in
theorem d2 (l : Launch) (Z : State) (a0 : Array Value) (hw : ∀ d ∈ tables_1, d.before a0 Z = true) (ws : List Jvm.Cond) (o0 : Addr) (o1 : Addr) (ad0 : Addr) (ah0 : Addr) (aa0 : Int32) (h0 : Heap) (n0 : Nat) (Z0 : n0 ≤ h0.size) (E_o0 : Exa Z h0 o0 z_s2) (E_o1 : Exa Z h0 o1 z_s1) (al0 : Fld Z h0 o0 z_s0 "value" "[B" (.ref ad0)) (ai0 : Fld Z h0 o0 z_s0 "coder" "B" (.int (0 : Int32))) (ay0 : Fld Z h0 o0 z_s0 "count" "I" (.int (0 : Int32))) (ac1 : Fld Z h0 o1 z_s1 "value" "[B" (.ref ah0)) (aa1 : Fld Z h0 o1 z_s1 "coder" "B" (.int (0 : Int32))) (af0 : Sta Z h0 z_s1 z_s8 "Z" (.int aa0)) (aj0 : ao0 Z h0 ad0 16) (at0 : ao0 Z h0 ah0 5) (ab1 : n0 ≤ o0) (av1 : n0 ≤ ad0) (aw0 : o0 ≠ ad0) (az1 : o0 ≠ o1) (ad1 : o0 ≠ ah0) (ax2 : ad0 ≠ o1) (ax1 : ad0 ≠ ah0) (hnz : ¬ (aa0 = (0 : Int32))) :
    as0 l Z (⟨z_s2, "append", z_s4⟩ : MethodName) jdk_67_method_7_code 2 (some (.object z_s2)) ws ({ frames := 4, cells := 0, slots := 0, locals := 83 } : Room) #[(.ref o0), (.ref o1)] h0 (fun (v : Option Value) (h : Heap) (L : List Loc) => v = some (.ref o0) ∧ Fr n0 L ∧ Keep h0 h [o0, ad0] ∧ Exa Z h o0 z_s2 ∧ Fld Z h o0 z_s0 "value" "[B" (.ref ad0) ∧ Fld Z h o0 z_s0 "coder" "B" (.int (0 : Int32)) ∧ Fld Z h o0 z_s0 "count" "I" (.int (5 : Int32)) ∧ ao0 Z h ad0 16) := by
  refine aq0 (plainFor_of_name ar1) ?_
  intro p e s m below meth c s₁ P hx hby hml hrt hlk hown hnm hZ X0 e0 hP
  have N0 := Fr.nil n0
  have K0 := Keep.refl h0 [o0, ad0]
  have hml' : c.maxLocals = 2 := hml
  refine ar0 (cz6 m o0 o1) ?_
  show ac0 p e below P (s₁.setTop (mkF m 0 #[.val (.ref o0), .val (.ref o1)] []))
  refine ab0 X0 hx (hb hby bp2) rfl rfl ?_
  refine ab0 X0 hx (hb hby bq2) rfl rfl ?_
  refine bp1 X0 hx hZ (y := (⟨z_s0, "append", z_s9⟩ : MethodName)) (z := (⟨z_s0, z_s6, "(I)V"⟩ : MethodName)) hown (z_w hw 49 rfl) (z_w hw 50 rfl) rfl (z_w hw 72 rfl) (z_w hw 51 rfl) (z_w hw 36 rfl) (z_w hw 53 rfl) E_o0 (dz1 l Z a0 hw [] o0 o1 ad0 ah0 aa0 h0 n0 (Nat.le_trans Z0 K0.1) E_o0 E_o1 al0 ai0 ay0 ac1 aa1 af0 aj0 at0 ab1 av1 aw0 az1 ad1 ax2 ax1 hnz) 0 e0 hml' (argsL := [(.ref o1)]) (rest := []) (lenOf ap1 rfl) (hb hby br2) (fun r1 T1 L1 X1 hQ1 => ?_)
  obtain ⟨rfl, Nq1, Kq1, f0_1, f1_1, f2_1, f3_1, f4_1⟩ := hQ1
  have N1 := Fr.app N0 Nq1
  have K1 := Keep.trans K0 Kq1 (allS (Or.inl (List.mem_of_getElem? (i := 0) rfl)) (allS (Or.inl (List.mem_of_getElem? (i := 1) rfl)) all0))
  show ac0 p e below P (T1.setTop (mkF m 5 #[.val (.ref o0), .val (.ref o1)] [(.ref o0)]))
  refine bs5 X1 hx (hb hby bs2) rfl ?_
  refine ab0 X1 hx (hb hby bt2) rfl rfl ?_
  have hfin : ((fun (v : Option Value) (h : Heap) (L : List Loc) => v = some (.ref o0) ∧ Fr n0 L ∧ Keep h0 h [o0, ad0] ∧ Exa Z h o0 z_s2 ∧ Fld Z h o0 z_s0 "value" "[B" (.ref ad0) ∧ Fld Z h o0 z_s0 "coder" "B" (.int (0 : Int32)) ∧ Fld Z h o0 z_s0 "count" "I" (.int (5 : Int32)) ∧ ao0 Z h ad0 16)) (some (.ref o0)) T1.heap _ := ⟨rfl, N1, K1, f0_1, f1_1, f2_1, f3_1, f4_1⟩
  refine as1 X1 hx hlk hP rfl rfl hrt (hb hby bu2) (by decide) (by decide) ?_
  exact hfin
theorem c7 (m : MethodId) (o0 : Addr) (o1 : Addr) : entryFrame m #[(.ref o0), (.ref o1)] 3 = mkF m 0 #[.val (.ref o0), .val (.ref o1), .unset] [] := by first | (simp [entryFrame, mkF, argsToLocals, Value.category]; done) | rfl
set_option maxRecDepth 65536 in
set_option maxHeartbeats 40000000 in
theorem da2 (l : Launch) (Z : State) (a0 : Array Value) (hw : ∀ d ∈ tables_1, d.before a0 Z = true) (ws : List Jvm.Cond) (o0 : Addr) (o1 : Addr) (ad0 : Addr) (ah0 : Addr) (aa0 : Int32) (h0 : Heap) (n0 : Nat) (Z0 : n0 ≤ h0.size) (E_o0 : Exa Z h0 o0 z_s2) (E_o1 : Exa Z h0 o1 z_s1) (al0 : Fld Z h0 o0 z_s0 "value" "[B" (.ref ad0)) (ai0 : Fld Z h0 o0 z_s0 "coder" "B" (.int (0 : Int32))) (ay0 : Fld Z h0 o0 z_s0 "count" "I" (.int (0 : Int32))) (ac1 : Fld Z h0 o1 z_s1 "value" "[B" (.ref ah0)) (aa1 : Fld Z h0 o1 z_s1 "coder" "B" (.int (0 : Int32))) (af0 : Sta Z h0 z_s1 z_s8 "Z" (.int aa0)) (aj0 : ao0 Z h0 ad0 16) (at0 : ao0 Z h0 ah0 6) (ab1 : n0 ≤ o0) (av1 : n0 ≤ ad0) (aw0 : o0 ≠ ad0) (az1 : o0 ≠ o1) (ad1 : o0 ≠ ah0) (ax2 : ad0 ≠ o1) (ax1 : ad0 ≠ ah0) (hnz : ¬ (aa0 = (0 : Int32))) :
    as0 l Z (⟨z_s0, "append", z_s9⟩ : MethodName) jdk_68_method_22_code 3 (some (.object z_s0)) ws ({ frames := 3, cells := 0, slots := 0, locals := 69 } : Room) #[(.ref o0), (.ref o1)] h0 (fun (v : Option Value) (h : Heap) (L : List Loc) => v = some (.ref o0) ∧ Fr n0 L ∧ Keep h0 h [o0, ad0] ∧ Exa Z h o0 z_s2 ∧ Fld Z h o0 z_s0 "value" "[B" (.ref ad0) ∧ Fld Z h o0 z_s0 "coder" "B" (.int (0 : Int32)) ∧ Fld Z h o0 z_s0 "count" "I" (.int (6 : Int32)) ∧ ao0 Z h ad0 16) := by
  refine aq0 (plainFor_of_name ap0) ?_
  intro p e s m below meth c s₁ P hx hby hml hrt hlk hown hnm hZ X0 e0 hP
  have N0 := Fr.nil n0
  have K0 := Keep.refl h0 [o0, ad0]
  have hml' : c.maxLocals = 3 := hml
  refine ar0 (c7 m o0 o1) ?_
  show ac0 p e below P (s₁.setTop (mkF m 0 #[.val (.ref o0), .val (.ref o1), .unset] []))
  refine ab0 X0 hx (hb hby bm2) rfl rfl ?_
  refine al7 X0 hx (pc' := 9) (hb hby bn2) ?_
  refine ab0 X0 hx (hb hby bo2) rfl rfl ?_
  refine ag2 X0 hx hZ (y := (⟨z_s1, "length", "()I"⟩ : MethodName)) (z := (⟨z_s1, "length", "()I"⟩ : MethodName)) hown (z_w hw 54 rfl) (z_w hw 55 rfl) (notFace_of_selects (args := #[]) (mvT hZ (z_w hw 57 rfl))) (z_w hw 57 rfl) (z_w hw 56 rfl) (z_w hw 16 rfl) (z_w hw 58 rfl) E_o1 (dr6 l Z a0 hw [] o1 ah0 aa0 h0 n0 (Nat.le_trans Z0 K0.1) E_o1 ac1 aa1 af0 at0 hnz) 0 e0 hml' (argsL := []) (rest := []) (lenOf az4 rfl) (hb hby ay9) (fun r1 T1 L1 X1 hQ1 => ?_)
  obtain ⟨rfl, Nq1, eq1⟩ := hQ1
  have N1 := Fr.app N0 Nq1
  show ac0 p e below P (T1.setTop (mkF m 13 #[.val (.ref o0), .val (.ref o1), .unset] [(.int (6 : Int32))]))
  refine aj2 X1 hx (hb hby az9) (l' := #[.val (.ref o0), .val (.ref o1), .val (.int (6 : Int32))]) rfl ?_
  refine ab0 X1 hx (hb hby b0) rfl rfl ?_
  refine ab0 X1 hx (hb hby ba0) rfl rfl ?_
  refine ak1 X1 hx hZ hown (host := "") (Or.inl (z_w hw 67 rfl)) Via.refl eq1 ay0 (hb hby bb0) (fun T2 X2 e2 => ?_)
  refine ae0 X2 hx (hb hby bc0) rfl ?_
  refine am2 X2 hx (hb hby bd0) (z := (6 : Int32)) rfl ?_
  refine a5 X2 hx hZ (y := (⟨z_s0, z_s6, "(I)V"⟩ : MethodName)) (z := (⟨z_s0, z_s6, "(I)V"⟩ : MethodName)) hown (z_w hw 69 rfl) (z_w hw 70 rfl) rfl (z_w hw 72 rfl) (z_w hw 71 rfl) (z_w hw 36 rfl) (z_w hw 73 rfl) E_o0 (eq0 l Z a0 hw [] o0 ad0 h0 n0 (Nat.le_trans Z0 K0.1) E_o0 al0 ai0 aj0) 0 e2 hml' (argsL := [(.int (6 : Int32))]) (rest := []) (lenOf am7 rfl) (hb hby be0) (fun r3 T3 L3 X3 hQ3 => ?_)
  obtain ⟨rfl, Nq3, eq3⟩ := hQ3
  have N3 := Fr.app N1 Nq3
  show ac0 p e below P (T3.setTop (mkF m 24 #[.val (.ref o0), .val (.ref o1), .val (.int (6 : Int32))] []))
  refine ab0 X3 hx (hb hby bf0) rfl rfl ?_
  refine ab0 X3 hx (hb hby bg0) rfl rfl ?_
  refine ak1 X3 hx hZ hown (host := "") (Or.inl (z_w hw 67 rfl)) Via.refl eq3 ay0 (hb hby bh0) (fun T4 X4 e4 => ?_)
  refine ab0 X4 hx (hb hby bi0) rfl rfl ?_
  refine a5 X4 hx hZ (y := (⟨z_s0, "putStringAt", "(ILjava/lang/String;)V"⟩ : MethodName)) (z := (⟨z_s0, z_s6, "(I)V"⟩ : MethodName)) hown (z_w hw 74 rfl) (z_w hw 75 rfl) rfl (z_w hw 72 rfl) (z_w hw 76 rfl) (z_w hw 36 rfl) (z_w hw 78 rfl) E_o0 (dn1 l Z a0 hw [] o0 o1 ad0 ah0 aa0 h0 n0 (Nat.le_trans Z0 K0.1) E_o0 E_o1 al0 ai0 ac1 aa1 af0 at0 aj0 av1 aw0.symm ax2 ax1 hnz) 0 e4 hml' (argsL := [(.int (0 : Int32)), (.ref o1)]) (rest := []) (lenOf ab3 rfl) (hb hby bj0) (fun r5 T5 L5 X5 hQ5 => ?_)
  obtain ⟨rfl, Nq5, Kq5, f0_5⟩ := hQ5
  have N5 := Fr.app N3 Nq5
  have K5 := Keep.trans K0 Kq5 (allS (Or.inl (List.mem_of_getElem? (i := 1) rfl)) all0)
  show ac0 p e below P (T5.setTop (mkF m 33 #[.val (.ref o0), .val (.ref o1), .val (.int (6 : Int32))] []))
  refine ab0 X5 hx (hb hby bk0) rfl rfl ?_
  refine an6 X5 hx (hb hby bl0) rfl ?_
  have G6 := (ay0.keep Kq5 (ninS aw0 nin0))
  refine ak1 X5 hx hZ hown (host := "") (Or.inl (z_w hw 67 rfl)) Via.refl rfl G6 (hb hby bm0) (fun T7 X7 e7 => ?_)
  refine ae0 X7 hx (hb hby bn0) rfl ?_
  refine am2 X7 hx (hb hby bo0) (z := (6 : Int32)) rfl ?_
  have G8 := (E_o0.keep Kq5)
  refine aj7 X7 hx hZ hown (host := "") (Or.inl (z_w hw 67 rfl)) Via.refl e7 G6 G8 (Or.inl (z_w hw 68 rfl)) (z_w hw 27 rfl) (ty := .int) (by decide) (hb hby bp0) (fun T9 h9 X9 e9 W9 => ?_)
  have N9 := Fr.snoc X9 N5 ab1
  have K9 := Keep.wr K5 W9 (Or.inl (List.mem_of_getElem? (i := 0) rfl))
  have F9 := G6.same W9
  refine ab0 X9 hx (hb hby bq0) rfl rfl ?_
  have G10 := (G8.wr W9)
  have G11 := ((al0.keep Kq5 (ninS aw0 nin0)).other W9 (Or.inr (slot_ne (Or.inl (z_w hw 41 rfl)) (Or.inl (z_w hw 68 rfl)) (by decide) (t := (.array .byte)) (t' := .int) (by decide) (by decide))))
  have G12 := ((ai0.keep Kq5 (ninS aw0 nin0)).other W9 (Or.inr (slot_ne (Or.inl (z_w hw 43 rfl)) (Or.inl (z_w hw 68 rfl)) (by decide) (t := .byte) (t' := .int) (by decide) (by decide))))
  have G13 := (f0_5.other W9 aw0.symm)
  have hfin : ((fun (v : Option Value) (h : Heap) (L : List Loc) => v = some (.ref o0) ∧ Fr n0 L ∧ Keep h0 h [o0, ad0] ∧ Exa Z h o0 z_s2 ∧ Fld Z h o0 z_s0 "value" "[B" (.ref ad0) ∧ Fld Z h o0 z_s0 "coder" "B" (.int (0 : Int32)) ∧ Fld Z h o0 z_s0 "count" "I" (.int (6 : Int32)) ∧ ao0 Z h ad0 16)) (some (.ref o0)) h9 _ := ⟨rfl, N9, K9, G10, G11, G12, F9, G13⟩
  refine as1 X9 hx hlk hP rfl rfl hrt (hb hby br0) (by decide) (by decide) ?_
  rw [e9]; exact hfin
theorem ca7 (m : MethodId) (o0 : Addr) (o1 : Addr) : entryFrame m #[(.ref o0), (.ref o1)] 2 = mkF m 0 #[.val (.ref o0), .val (.ref o1)] [] := by first | (simp [entryFrame, mkF, argsToLocals, Value.category]; done) | rfl
set_option maxRecDepth 65536 in
set_option maxHeartbeats 40000000 in
theorem db2 (l : Launch) (Z : State) (a0 : Array Value) (hw : ∀ d ∈ tables_1, d.before a0 Z = true) (ws : List Jvm.Cond) (o0 : Addr) (o1 : Addr) (ad0 : Addr) (ah0 : Addr) (aa0 : Int32) (h0 : Heap) (n0 : Nat) (Z0 : n0 ≤ h0.size) (E_o0 : Exa Z h0 o0 z_s2) (E_o1 : Exa Z h0 o1 z_s1) (al0 : Fld Z h0 o0 z_s0 "value" "[B" (.ref ad0)) (ai0 : Fld Z h0 o0 z_s0 "coder" "B" (.int (0 : Int32))) (ay0 : Fld Z h0 o0 z_s0 "count" "I" (.int (0 : Int32))) (ac1 : Fld Z h0 o1 z_s1 "value" "[B" (.ref ah0)) (aa1 : Fld Z h0 o1 z_s1 "coder" "B" (.int (0 : Int32))) (af0 : Sta Z h0 z_s1 z_s8 "Z" (.int aa0)) (aj0 : ao0 Z h0 ad0 16) (at0 : ao0 Z h0 ah0 6) (ab1 : n0 ≤ o0) (av1 : n0 ≤ ad0) (aw0 : o0 ≠ ad0) (az1 : o0 ≠ o1) (ad1 : o0 ≠ ah0) (ax2 : ad0 ≠ o1) (ax1 : ad0 ≠ ah0) (hnz : ¬ (aa0 = (0 : Int32))) :
    as0 l Z (⟨z_s2, "append", z_s4⟩ : MethodName) jdk_67_method_7_code 2 (some (.object z_s2)) ws ({ frames := 4, cells := 0, slots := 0, locals := 83 } : Room) #[(.ref o0), (.ref o1)] h0 (fun (v : Option Value) (h : Heap) (L : List Loc) => v = some (.ref o0) ∧ Fr n0 L ∧ Keep h0 h [o0, ad0] ∧ Exa Z h o0 z_s2 ∧ Fld Z h o0 z_s0 "value" "[B" (.ref ad0) ∧ Fld Z h o0 z_s0 "coder" "B" (.int (0 : Int32)) ∧ Fld Z h o0 z_s0 "count" "I" (.int (6 : Int32)) ∧ ao0 Z h ad0 16) := by
  refine aq0 (plainFor_of_name ar1) ?_
  intro p e s m below meth c s₁ P hx hby hml hrt hlk hown hnm hZ X0 e0 hP
  have N0 := Fr.nil n0
  have K0 := Keep.refl h0 [o0, ad0]
  have hml' : c.maxLocals = 2 := hml
  refine ar0 (ca7 m o0 o1) ?_
  show ac0 p e below P (s₁.setTop (mkF m 0 #[.val (.ref o0), .val (.ref o1)] []))
  refine ab0 X0 hx (hb hby bp2) rfl rfl ?_
  refine ab0 X0 hx (hb hby bq2) rfl rfl ?_
  refine bp1 X0 hx hZ (y := (⟨z_s0, "append", z_s9⟩ : MethodName)) (z := (⟨z_s0, z_s6, "(I)V"⟩ : MethodName)) hown (z_w hw 49 rfl) (z_w hw 50 rfl) rfl (z_w hw 72 rfl) (z_w hw 51 rfl) (z_w hw 36 rfl) (z_w hw 53 rfl) E_o0 (da2 l Z a0 hw [] o0 o1 ad0 ah0 aa0 h0 n0 (Nat.le_trans Z0 K0.1) E_o0 E_o1 al0 ai0 ay0 ac1 aa1 af0 aj0 at0 ab1 av1 aw0 az1 ad1 ax2 ax1 hnz) 0 e0 hml' (argsL := [(.ref o1)]) (rest := []) (lenOf ap1 rfl) (hb hby br2) (fun r1 T1 L1 X1 hQ1 => ?_)
  obtain ⟨rfl, Nq1, Kq1, f0_1, f1_1, f2_1, f3_1, f4_1⟩ := hQ1
  have N1 := Fr.app N0 Nq1
  have K1 := Keep.trans K0 Kq1 (allS (Or.inl (List.mem_of_getElem? (i := 0) rfl)) (allS (Or.inl (List.mem_of_getElem? (i := 1) rfl)) all0))
  show ac0 p e below P (T1.setTop (mkF m 5 #[.val (.ref o0), .val (.ref o1)] [(.ref o0)]))
  refine bs5 X1 hx (hb hby bs2) rfl ?_
  refine ab0 X1 hx (hb hby bt2) rfl rfl ?_
  have hfin : ((fun (v : Option Value) (h : Heap) (L : List Loc) => v = some (.ref o0) ∧ Fr n0 L ∧ Keep h0 h [o0, ad0] ∧ Exa Z h o0 z_s2 ∧ Fld Z h o0 z_s0 "value" "[B" (.ref ad0) ∧ Fld Z h o0 z_s0 "coder" "B" (.int (0 : Int32)) ∧ Fld Z h o0 z_s0 "count" "I" (.int (6 : Int32)) ∧ ao0 Z h ad0 16)) (some (.ref o0)) T1.heap _ := ⟨rfl, N1, K1, f0_1, f1_1, f2_1, f3_1, f4_1⟩
  refine as1 X1 hx hlk hP rfl rfl hrt (hb hby bu2) (by decide) (by decide) ?_
  exact hfin
theorem cb7 (m : MethodId) (o0 : Addr) (o1 : Addr) : entryFrame m #[(.ref o0), (.ref o1)] 3 = mkF m 0 #[.val (.ref o0), .val (.ref o1), .unset] [] := by first | (simp [entryFrame, mkF, argsToLocals, Value.category]; done) | rfl
set_option maxRecDepth 65536 in
set_option maxHeartbeats 40000000 in
theorem dc2 (l : Launch) (Z : State) (a0 : Array Value) (hw : ∀ d ∈ tables_1, d.before a0 Z = true) (ws : List Jvm.Cond) (o0 : Addr) (o1 : Addr) (ad0 : Addr) (ah0 : Addr) (aa0 : Int32) (h0 : Heap) (n0 : Nat) (Z0 : n0 ≤ h0.size) (E_o0 : Exa Z h0 o0 z_s2) (E_o1 : Exa Z h0 o1 z_s1) (al0 : Fld Z h0 o0 z_s0 "value" "[B" (.ref ad0)) (ai0 : Fld Z h0 o0 z_s0 "coder" "B" (.int (0 : Int32))) (ay0 : Fld Z h0 o0 z_s0 "count" "I" (.int (0 : Int32))) (ac1 : Fld Z h0 o1 z_s1 "value" "[B" (.ref ah0)) (aa1 : Fld Z h0 o1 z_s1 "coder" "B" (.int (0 : Int32))) (af0 : Sta Z h0 z_s1 z_s8 "Z" (.int aa0)) (aj0 : ao0 Z h0 ad0 16) (at0 : ao0 Z h0 ah0 7) (ab1 : n0 ≤ o0) (av1 : n0 ≤ ad0) (aw0 : o0 ≠ ad0) (az1 : o0 ≠ o1) (ad1 : o0 ≠ ah0) (ax2 : ad0 ≠ o1) (ax1 : ad0 ≠ ah0) (hnz : ¬ (aa0 = (0 : Int32))) :
    as0 l Z (⟨z_s0, "append", z_s9⟩ : MethodName) jdk_68_method_22_code 3 (some (.object z_s0)) ws ({ frames := 3, cells := 0, slots := 0, locals := 69 } : Room) #[(.ref o0), (.ref o1)] h0 (fun (v : Option Value) (h : Heap) (L : List Loc) => v = some (.ref o0) ∧ Fr n0 L ∧ Keep h0 h [o0, ad0] ∧ Exa Z h o0 z_s2 ∧ Fld Z h o0 z_s0 "value" "[B" (.ref ad0) ∧ Fld Z h o0 z_s0 "coder" "B" (.int (0 : Int32)) ∧ Fld Z h o0 z_s0 "count" "I" (.int (7 : Int32)) ∧ ao0 Z h ad0 16) := by
  refine aq0 (plainFor_of_name ap0) ?_
  intro p e s m below meth c s₁ P hx hby hml hrt hlk hown hnm hZ X0 e0 hP
  have N0 := Fr.nil n0
  have K0 := Keep.refl h0 [o0, ad0]
  have hml' : c.maxLocals = 3 := hml
  refine ar0 (cb7 m o0 o1) ?_
  show ac0 p e below P (s₁.setTop (mkF m 0 #[.val (.ref o0), .val (.ref o1), .unset] []))
  refine ab0 X0 hx (hb hby bm2) rfl rfl ?_
  refine al7 X0 hx (pc' := 9) (hb hby bn2) ?_
  refine ab0 X0 hx (hb hby bo2) rfl rfl ?_
  refine ag2 X0 hx hZ (y := (⟨z_s1, "length", "()I"⟩ : MethodName)) (z := (⟨z_s1, "length", "()I"⟩ : MethodName)) hown (z_w hw 54 rfl) (z_w hw 55 rfl) (notFace_of_selects (args := #[]) (mvT hZ (z_w hw 57 rfl))) (z_w hw 57 rfl) (z_w hw 56 rfl) (z_w hw 16 rfl) (z_w hw 58 rfl) E_o1 (ds6 l Z a0 hw [] o1 ah0 aa0 h0 n0 (Nat.le_trans Z0 K0.1) E_o1 ac1 aa1 af0 at0 hnz) 0 e0 hml' (argsL := []) (rest := []) (lenOf az4 rfl) (hb hby ay9) (fun r1 T1 L1 X1 hQ1 => ?_)
  obtain ⟨rfl, Nq1, eq1⟩ := hQ1
  have N1 := Fr.app N0 Nq1
  show ac0 p e below P (T1.setTop (mkF m 13 #[.val (.ref o0), .val (.ref o1), .unset] [(.int (7 : Int32))]))
  refine aj2 X1 hx (hb hby az9) (l' := #[.val (.ref o0), .val (.ref o1), .val (.int (7 : Int32))]) rfl ?_
  refine ab0 X1 hx (hb hby b0) rfl rfl ?_
  refine ab0 X1 hx (hb hby ba0) rfl rfl ?_
  refine ak1 X1 hx hZ hown (host := "") (Or.inl (z_w hw 67 rfl)) Via.refl eq1 ay0 (hb hby bb0) (fun T2 X2 e2 => ?_)
  refine ae0 X2 hx (hb hby bc0) rfl ?_
  refine am2 X2 hx (hb hby bd0) (z := (7 : Int32)) rfl ?_
  refine a5 X2 hx hZ (y := (⟨z_s0, z_s6, "(I)V"⟩ : MethodName)) (z := (⟨z_s0, z_s6, "(I)V"⟩ : MethodName)) hown (z_w hw 69 rfl) (z_w hw 70 rfl) rfl (z_w hw 72 rfl) (z_w hw 71 rfl) (z_w hw 36 rfl) (z_w hw 73 rfl) E_o0 (er0 l Z a0 hw [] o0 ad0 h0 n0 (Nat.le_trans Z0 K0.1) E_o0 al0 ai0 aj0) 0 e2 hml' (argsL := [(.int (7 : Int32))]) (rest := []) (lenOf am7 rfl) (hb hby be0) (fun r3 T3 L3 X3 hQ3 => ?_)
  obtain ⟨rfl, Nq3, eq3⟩ := hQ3
  have N3 := Fr.app N1 Nq3
  show ac0 p e below P (T3.setTop (mkF m 24 #[.val (.ref o0), .val (.ref o1), .val (.int (7 : Int32))] []))
  refine ab0 X3 hx (hb hby bf0) rfl rfl ?_
  refine ab0 X3 hx (hb hby bg0) rfl rfl ?_
  refine ak1 X3 hx hZ hown (host := "") (Or.inl (z_w hw 67 rfl)) Via.refl eq3 ay0 (hb hby bh0) (fun T4 X4 e4 => ?_)
  refine ab0 X4 hx (hb hby bi0) rfl rfl ?_
  refine a5 X4 hx hZ (y := (⟨z_s0, "putStringAt", "(ILjava/lang/String;)V"⟩ : MethodName)) (z := (⟨z_s0, z_s6, "(I)V"⟩ : MethodName)) hown (z_w hw 74 rfl) (z_w hw 75 rfl) rfl (z_w hw 72 rfl) (z_w hw 76 rfl) (z_w hw 36 rfl) (z_w hw 78 rfl) E_o0 (dp1 l Z a0 hw [] o0 o1 ad0 ah0 aa0 h0 n0 (Nat.le_trans Z0 K0.1) E_o0 E_o1 al0 ai0 ac1 aa1 af0 at0 aj0 av1 aw0.symm ax2 ax1 hnz) 0 e4 hml' (argsL := [(.int (0 : Int32)), (.ref o1)]) (rest := []) (lenOf ab3 rfl) (hb hby bj0) (fun r5 T5 L5 X5 hQ5 => ?_)
  obtain ⟨rfl, Nq5, Kq5, f0_5⟩ := hQ5
  have N5 := Fr.app N3 Nq5
  have K5 := Keep.trans K0 Kq5 (allS (Or.inl (List.mem_of_getElem? (i := 1) rfl)) all0)
  show ac0 p e below P (T5.setTop (mkF m 33 #[.val (.ref o0), .val (.ref o1), .val (.int (7 : Int32))] []))
  refine ab0 X5 hx (hb hby bk0) rfl rfl ?_
  refine an6 X5 hx (hb hby bl0) rfl ?_
  have G6 := (ay0.keep Kq5 (ninS aw0 nin0))
  refine ak1 X5 hx hZ hown (host := "") (Or.inl (z_w hw 67 rfl)) Via.refl rfl G6 (hb hby bm0) (fun T7 X7 e7 => ?_)
  refine ae0 X7 hx (hb hby bn0) rfl ?_
  refine am2 X7 hx (hb hby bo0) (z := (7 : Int32)) rfl ?_
  have G8 := (E_o0.keep Kq5)
  refine aj7 X7 hx hZ hown (host := "") (Or.inl (z_w hw 67 rfl)) Via.refl e7 G6 G8 (Or.inl (z_w hw 68 rfl)) (z_w hw 27 rfl) (ty := .int) (by decide) (hb hby bp0) (fun T9 h9 X9 e9 W9 => ?_)
  have N9 := Fr.snoc X9 N5 ab1
  have K9 := Keep.wr K5 W9 (Or.inl (List.mem_of_getElem? (i := 0) rfl))
  have F9 := G6.same W9
  refine ab0 X9 hx (hb hby bq0) rfl rfl ?_
  have G10 := (G8.wr W9)
  have G11 := ((al0.keep Kq5 (ninS aw0 nin0)).other W9 (Or.inr (slot_ne (Or.inl (z_w hw 41 rfl)) (Or.inl (z_w hw 68 rfl)) (by decide) (t := (.array .byte)) (t' := .int) (by decide) (by decide))))
  have G12 := ((ai0.keep Kq5 (ninS aw0 nin0)).other W9 (Or.inr (slot_ne (Or.inl (z_w hw 43 rfl)) (Or.inl (z_w hw 68 rfl)) (by decide) (t := .byte) (t' := .int) (by decide) (by decide))))
  have G13 := (f0_5.other W9 aw0.symm)
  have hfin : ((fun (v : Option Value) (h : Heap) (L : List Loc) => v = some (.ref o0) ∧ Fr n0 L ∧ Keep h0 h [o0, ad0] ∧ Exa Z h o0 z_s2 ∧ Fld Z h o0 z_s0 "value" "[B" (.ref ad0) ∧ Fld Z h o0 z_s0 "coder" "B" (.int (0 : Int32)) ∧ Fld Z h o0 z_s0 "count" "I" (.int (7 : Int32)) ∧ ao0 Z h ad0 16)) (some (.ref o0)) h9 _ := ⟨rfl, N9, K9, G10, G11, G12, F9, G13⟩
  refine as1 X9 hx hlk hP rfl rfl hrt (hb hby br0) (by decide) (by decide) ?_
  rw [e9]; exact hfin
theorem cc7 (m : MethodId) (o0 : Addr) (o1 : Addr) : entryFrame m #[(.ref o0), (.ref o1)] 2 = mkF m 0 #[.val (.ref o0), .val (.ref o1)] [] := by first | (simp [entryFrame, mkF, argsToLocals, Value.category]; done) | rfl
set_option maxRecDepth 65536 in
set_option maxHeartbeats 40000000 in
theorem dd2 (l : Launch) (Z : State) (a0 : Array Value) (hw : ∀ d ∈ tables_1, d.before a0 Z = true) (ws : List Jvm.Cond) (o0 : Addr) (o1 : Addr) (ad0 : Addr) (ah0 : Addr) (aa0 : Int32) (h0 : Heap) (n0 : Nat) (Z0 : n0 ≤ h0.size) (E_o0 : Exa Z h0 o0 z_s2) (E_o1 : Exa Z h0 o1 z_s1) (al0 : Fld Z h0 o0 z_s0 "value" "[B" (.ref ad0)) (ai0 : Fld Z h0 o0 z_s0 "coder" "B" (.int (0 : Int32))) (ay0 : Fld Z h0 o0 z_s0 "count" "I" (.int (0 : Int32))) (ac1 : Fld Z h0 o1 z_s1 "value" "[B" (.ref ah0)) (aa1 : Fld Z h0 o1 z_s1 "coder" "B" (.int (0 : Int32))) (af0 : Sta Z h0 z_s1 z_s8 "Z" (.int aa0)) (aj0 : ao0 Z h0 ad0 16) (at0 : ao0 Z h0 ah0 7) (ab1 : n0 ≤ o0) (av1 : n0 ≤ ad0) (aw0 : o0 ≠ ad0) (az1 : o0 ≠ o1) (ad1 : o0 ≠ ah0) (ax2 : ad0 ≠ o1) (ax1 : ad0 ≠ ah0) (hnz : ¬ (aa0 = (0 : Int32))) :
    as0 l Z (⟨z_s2, "append", z_s4⟩ : MethodName) jdk_67_method_7_code 2 (some (.object z_s2)) ws ({ frames := 4, cells := 0, slots := 0, locals := 83 } : Room) #[(.ref o0), (.ref o1)] h0 (fun (v : Option Value) (h : Heap) (L : List Loc) => v = some (.ref o0) ∧ Fr n0 L ∧ Keep h0 h [o0, ad0] ∧ Exa Z h o0 z_s2 ∧ Fld Z h o0 z_s0 "value" "[B" (.ref ad0) ∧ Fld Z h o0 z_s0 "coder" "B" (.int (0 : Int32)) ∧ Fld Z h o0 z_s0 "count" "I" (.int (7 : Int32)) ∧ ao0 Z h ad0 16) := by
  refine aq0 (plainFor_of_name ar1) ?_
  intro p e s m below meth c s₁ P hx hby hml hrt hlk hown hnm hZ X0 e0 hP
  have N0 := Fr.nil n0
  have K0 := Keep.refl h0 [o0, ad0]
  have hml' : c.maxLocals = 2 := hml
  refine ar0 (cc7 m o0 o1) ?_
  show ac0 p e below P (s₁.setTop (mkF m 0 #[.val (.ref o0), .val (.ref o1)] []))
  refine ab0 X0 hx (hb hby bp2) rfl rfl ?_
  refine ab0 X0 hx (hb hby bq2) rfl rfl ?_
  refine bp1 X0 hx hZ (y := (⟨z_s0, "append", z_s9⟩ : MethodName)) (z := (⟨z_s0, z_s6, "(I)V"⟩ : MethodName)) hown (z_w hw 49 rfl) (z_w hw 50 rfl) rfl (z_w hw 72 rfl) (z_w hw 51 rfl) (z_w hw 36 rfl) (z_w hw 53 rfl) E_o0 (dc2 l Z a0 hw [] o0 o1 ad0 ah0 aa0 h0 n0 (Nat.le_trans Z0 K0.1) E_o0 E_o1 al0 ai0 ay0 ac1 aa1 af0 aj0 at0 ab1 av1 aw0 az1 ad1 ax2 ax1 hnz) 0 e0 hml' (argsL := [(.ref o1)]) (rest := []) (lenOf ap1 rfl) (hb hby br2) (fun r1 T1 L1 X1 hQ1 => ?_)
  obtain ⟨rfl, Nq1, Kq1, f0_1, f1_1, f2_1, f3_1, f4_1⟩ := hQ1
  have N1 := Fr.app N0 Nq1
  have K1 := Keep.trans K0 Kq1 (allS (Or.inl (List.mem_of_getElem? (i := 0) rfl)) (allS (Or.inl (List.mem_of_getElem? (i := 1) rfl)) all0))
  show ac0 p e below P (T1.setTop (mkF m 5 #[.val (.ref o0), .val (.ref o1)] [(.ref o0)]))
  refine bs5 X1 hx (hb hby bs2) rfl ?_
  refine ab0 X1 hx (hb hby bt2) rfl rfl ?_
  have hfin : ((fun (v : Option Value) (h : Heap) (L : List Loc) => v = some (.ref o0) ∧ Fr n0 L ∧ Keep h0 h [o0, ad0] ∧ Exa Z h o0 z_s2 ∧ Fld Z h o0 z_s0 "value" "[B" (.ref ad0) ∧ Fld Z h o0 z_s0 "coder" "B" (.int (0 : Int32)) ∧ Fld Z h o0 z_s0 "count" "I" (.int (7 : Int32)) ∧ ao0 Z h ad0 16)) (some (.ref o0)) T1.heap _ := ⟨rfl, N1, K1, f0_1, f1_1, f2_1, f3_1, f4_1⟩
  refine as1 X1 hx hlk hP rfl rfl hrt (hb hby bu2) (by decide) (by decide) ?_
  exact hfin
theorem cz5 (m : MethodId) (o0 : Addr) (o1 : Addr) : entryFrame m #[(.ref o0), (.ref o1)] 3 = mkF m 0 #[.val (.ref o0), .val (.ref o1), .unset] [] := by first | (simp [entryFrame, mkF, argsToLocals, Value.category]; done) | rfl
set_option maxRecDepth 65536 in
set_option maxHeartbeats 40000000 in
theorem cd7 (l : Launch) (Z : State) (a0 : Array Value) (hw : ∀ d ∈ tables_1, d.before a0 Z = true) (ws : List Jvm.Cond) (o0 : Addr) (o1 : Addr) (ad0 : Addr) (ah0 : Addr) (aa0 : Int32) (h0 : Heap) (n0 : Nat) (Z0 : n0 ≤ h0.size) (E_o0 : Exa Z h0 o0 z_s2) (E_o1 : Exa Z h0 o1 z_s1) (al0 : Fld Z h0 o0 z_s0 "value" "[B" (.ref ad0)) (ai0 : Fld Z h0 o0 z_s0 "coder" "B" (.int (0 : Int32))) (ay0 : Fld Z h0 o0 z_s0 "count" "I" (.int (5 : Int32))) (ac1 : Fld Z h0 o1 z_s1 "value" "[B" (.ref ah0)) (aa1 : Fld Z h0 o1 z_s1 "coder" "B" (.int (0 : Int32))) (af0 : Sta Z h0 z_s1 z_s8 "Z" (.int aa0)) (aj0 : ao0 Z h0 ad0 16) (at0 : ao0 Z h0 ah0 17) (ab1 : n0 ≤ o0) (aw0 : o0 ≠ ad0) (az1 : o0 ≠ o1) (ad1 : o0 ≠ ah0) (hnz : ¬ (aa0 = (0 : Int32))) :
    as0 l Z (⟨z_s0, "append", z_s9⟩ : MethodName) jdk_68_method_22_code 3 (some (.object z_s0)) ws ({ frames := 4, cells := 1, slots := 34, locals := 69 } : Room) #[(.ref o0), (.ref o1)] h0 (fun (v : Option Value) (h : Heap) (L : List Loc) => ∃ (b1_6_3 : Addr), v = some (.ref o0) ∧ Fr n0 L ∧ Keep h0 h [o0] ∧ h0.size ≤ b1_6_3 ∧ n0 ≤ b1_6_3 ∧ Exa Z h o0 z_s2 ∧ Fld Z h o0 z_s0 "value" "[B" (.ref b1_6_3) ∧ Fld Z h o0 z_s0 "coder" "B" (.int (0 : Int32)) ∧ Fld Z h o0 z_s0 "count" "I" (.int (22 : Int32)) ∧ ao0 Z h b1_6_3 34) := by
  refine aq0 (plainFor_of_name ap0) ?_
  intro p e s m below meth c s₁ P hx hby hml hrt hlk hown hnm hZ X0 e0 hP
  have N0 := Fr.nil n0
  have K0 := Keep.refl h0 [o0]
  have hml' : c.maxLocals = 3 := hml
  refine ar0 (cz5 m o0 o1) ?_
  show ac0 p e below P (s₁.setTop (mkF m 0 #[.val (.ref o0), .val (.ref o1), .unset] []))
  refine ab0 X0 hx (hb hby bm2) rfl rfl ?_
  refine al7 X0 hx (pc' := 9) (hb hby bn2) ?_
  refine ab0 X0 hx (hb hby bo2) rfl rfl ?_
  refine ag2 X0 hx hZ (y := (⟨z_s1, "length", "()I"⟩ : MethodName)) (z := (⟨z_s1, "length", "()I"⟩ : MethodName)) hown (z_w hw 54 rfl) (z_w hw 55 rfl) (notFace_of_selects (args := #[]) (mvT hZ (z_w hw 57 rfl))) (z_w hw 57 rfl) (z_w hw 56 rfl) (z_w hw 16 rfl) (z_w hw 58 rfl) E_o1 (cp1 l Z a0 hw [] o1 ah0 aa0 h0 n0 (Nat.le_trans Z0 K0.1) E_o1 ac1 aa1 af0 at0 hnz) 0 e0 hml' (argsL := []) (rest := []) (lenOf az4 rfl) (hb hby ay9) (fun r1 T1 L1 X1 hQ1 => ?_)
  obtain ⟨rfl, Nq1, eq1⟩ := hQ1
  have N1 := Fr.app N0 Nq1
  show ac0 p e below P (T1.setTop (mkF m 13 #[.val (.ref o0), .val (.ref o1), .unset] [(.int (17 : Int32))]))
  refine aj2 X1 hx (hb hby az9) (l' := #[.val (.ref o0), .val (.ref o1), .val (.int (17 : Int32))]) rfl ?_
  refine ab0 X1 hx (hb hby b0) rfl rfl ?_
  refine ab0 X1 hx (hb hby ba0) rfl rfl ?_
  refine ak1 X1 hx hZ hown (host := "") (Or.inl (z_w hw 67 rfl)) Via.refl eq1 ay0 (hb hby bb0) (fun T2 X2 e2 => ?_)
  refine ae0 X2 hx (hb hby bc0) rfl ?_
  refine am2 X2 hx (hb hby bd0) (z := (22 : Int32)) rfl ?_
  refine a5 X2 hx hZ (y := (⟨z_s0, z_s6, "(I)V"⟩ : MethodName)) (z := (⟨z_s0, z_s6, "(I)V"⟩ : MethodName)) hown (z_w hw 69 rfl) (z_w hw 70 rfl) rfl (z_w hw 72 rfl) (z_w hw 71 rfl) (z_w hw 36 rfl) (z_w hw 73 rfl) E_o0 (dh7 l Z a0 hw [] o0 ad0 h0 n0 (Nat.le_trans Z0 K0.1) E_o0 al0 ai0 ay0 aj0 ab1 aw0) 0 e2 hml' (argsL := [(.int (22 : Int32))]) (rest := []) (lenOf am7 rfl) (hb hby be0) (fun r3 T3 L3 X3 hQ3 => ?_)
  obtain ⟨b1_6_3, rfl, Nq3, Kq3, am4, aj9, f0_3, f1_3, f2_3, f3_3, f4_3⟩ := hQ3
  have N3 := Fr.app N1 Nq3
  have ne4 := z_nc E_o0.lt am4
  have ne5 := z_nc E_o1.lt am4
  have ne6 := z_nc aj0.lt am4
  have ne7 := z_nc at0.lt am4
  have aq9 := Nat.le_trans K0.1 am4
  have K3 := Keep.trans K0 Kq3 (allS (Or.inl (List.mem_of_getElem? (i := 0) rfl)) all0)
  show ac0 p e below P (T3.setTop (mkF m 24 #[.val (.ref o0), .val (.ref o1), .val (.int (17 : Int32))] []))
  refine ab0 X3 hx (hb hby bf0) rfl rfl ?_
  refine ab0 X3 hx (hb hby bg0) rfl rfl ?_
  refine ak1 X3 hx hZ hown (host := "") (Or.inl (z_w hw 67 rfl)) Via.refl rfl f3_3 (hb hby bh0) (fun T8 X8 e8 => ?_)
  refine ab0 X8 hx (hb hby bi0) rfl rfl ?_
  have G10 := (E_o1.keep Kq3)
  have G11 := (ac1.keep Kq3 (ninS az1.symm nin0))
  have G12 := (aa1.keep Kq3 (ninS az1.symm nin0))
  have G13 := (an2 af0 Kq3 (allS (ah6 E_o0) all0))
  have G14 := (at0.keep Kq3 (ninS ad1.symm nin0))
  refine a5 X8 hx hZ (y := (⟨z_s0, "putStringAt", "(ILjava/lang/String;)V"⟩ : MethodName)) (z := (⟨z_s0, z_s6, "(I)V"⟩ : MethodName)) hown (z_w hw 74 rfl) (z_w hw 75 rfl) rfl (z_w hw 72 rfl) (z_w hw 76 rfl) (z_w hw 36 rfl) (z_w hw 78 rfl) f0_3 (ct6 l Z a0 hw [] o0 o1 b1_6_3 ah0 aa0 T3.heap n0 (Nat.le_trans Z0 K3.1) f0_3 G10 f1_3 f2_3 G11 G12 G13 G14 f4_3 aj9 ne4.symm ne5.symm ne7.symm hnz) 0 e8 hml' (argsL := [(.int (5 : Int32)), (.ref o1)]) (rest := []) (lenOf ab3 rfl) (hb hby bj0) (fun r9 T9 L9 X9 hQ9 => ?_)
  obtain ⟨rfl, Nq9, Kq9, f0_9⟩ := hQ9
  have N9 := Fr.app N3 Nq9
  have K9 := Keep.trans K3 Kq9 (allS (Or.inr aq9) all0)
  show ac0 p e below P (T9.setTop (mkF m 33 #[.val (.ref o0), .val (.ref o1), .val (.int (17 : Int32))] []))
  refine ab0 X9 hx (hb hby bk0) rfl rfl ?_
  refine an6 X9 hx (hb hby bl0) rfl ?_
  have G15 := (f3_3.keep Kq9 (ninS ne4 nin0))
  refine ak1 X9 hx hZ hown (host := "") (Or.inl (z_w hw 67 rfl)) Via.refl rfl G15 (hb hby bm0) (fun T16 X16 e16 => ?_)
  refine ae0 X16 hx (hb hby bn0) rfl ?_
  refine am2 X16 hx (hb hby bo0) (z := (22 : Int32)) rfl ?_
  have G17 := (f0_3.keep Kq9)
  refine aj7 X16 hx hZ hown (host := "") (Or.inl (z_w hw 67 rfl)) Via.refl e16 G15 G17 (Or.inl (z_w hw 68 rfl)) (z_w hw 27 rfl) (ty := .int) (by decide) (hb hby bp0) (fun T18 h18 X18 e18 W18 => ?_)
  have N18 := Fr.snoc X18 N9 ab1
  have K18 := Keep.wr K9 W18 (Or.inl (List.mem_of_getElem? (i := 0) rfl))
  have F18 := G15.same W18
  refine ab0 X18 hx (hb hby bq0) rfl rfl ?_
  have G19 := (G17.wr W18)
  have G20 := ((f1_3.keep Kq9 (ninS ne4 nin0)).other W18 (Or.inr (slot_ne (Or.inl (z_w hw 41 rfl)) (Or.inl (z_w hw 68 rfl)) (by decide) (t := (.array .byte)) (t' := .int) (by decide) (by decide))))
  have G21 := ((f2_3.keep Kq9 (ninS ne4 nin0)).other W18 (Or.inr (slot_ne (Or.inl (z_w hw 43 rfl)) (Or.inl (z_w hw 68 rfl)) (by decide) (t := .byte) (t' := .int) (by decide) (by decide))))
  have G22 := (f0_9.other W18 ne4.symm)
  have hfin : ((fun (v : Option Value) (h : Heap) (L : List Loc) => ∃ (b1_6_3 : Addr), v = some (.ref o0) ∧ Fr n0 L ∧ Keep h0 h [o0] ∧ h0.size ≤ b1_6_3 ∧ n0 ≤ b1_6_3 ∧ Exa Z h o0 z_s2 ∧ Fld Z h o0 z_s0 "value" "[B" (.ref b1_6_3) ∧ Fld Z h o0 z_s0 "coder" "B" (.int (0 : Int32)) ∧ Fld Z h o0 z_s0 "count" "I" (.int (22 : Int32)) ∧ ao0 Z h b1_6_3 34)) (some (.ref o0)) h18 _ := ⟨b1_6_3, rfl, N18, K18, aq9, aj9, G19, G20, G21, F18, G22⟩
  refine as1 X18 hx hlk hP rfl rfl hrt (hb hby br0) (by decide) (by decide) ?_
  rw [e18]; exact hfin
theorem c6 (m : MethodId) (o0 : Addr) (o1 : Addr) : entryFrame m #[(.ref o0), (.ref o1)] 2 = mkF m 0 #[.val (.ref o0), .val (.ref o1)] [] := by first | (simp [entryFrame, mkF, argsToLocals, Value.category]; done) | rfl
set_option maxRecDepth 65536 in
set_option maxHeartbeats 40000000 in
theorem ce7 (l : Launch) (Z : State) (a0 : Array Value) (hw : ∀ d ∈ tables_1, d.before a0 Z = true) (ws : List Jvm.Cond) (o0 : Addr) (o1 : Addr) (ad0 : Addr) (ah0 : Addr) (aa0 : Int32) (h0 : Heap) (n0 : Nat) (Z0 : n0 ≤ h0.size) (E_o0 : Exa Z h0 o0 z_s2) (E_o1 : Exa Z h0 o1 z_s1) (al0 : Fld Z h0 o0 z_s0 "value" "[B" (.ref ad0)) (ai0 : Fld Z h0 o0 z_s0 "coder" "B" (.int (0 : Int32))) (ay0 : Fld Z h0 o0 z_s0 "count" "I" (.int (5 : Int32))) (ac1 : Fld Z h0 o1 z_s1 "value" "[B" (.ref ah0)) (aa1 : Fld Z h0 o1 z_s1 "coder" "B" (.int (0 : Int32))) (af0 : Sta Z h0 z_s1 z_s8 "Z" (.int aa0)) (aj0 : ao0 Z h0 ad0 16) (at0 : ao0 Z h0 ah0 17) (ab1 : n0 ≤ o0) (aw0 : o0 ≠ ad0) (az1 : o0 ≠ o1) (ad1 : o0 ≠ ah0) (hnz : ¬ (aa0 = (0 : Int32))) :
    as0 l Z (⟨z_s2, "append", z_s4⟩ : MethodName) jdk_67_method_7_code 2 (some (.object z_s2)) ws ({ frames := 5, cells := 1, slots := 34, locals := 83 } : Room) #[(.ref o0), (.ref o1)] h0 (fun (v : Option Value) (h : Heap) (L : List Loc) => ∃ (b1_6_3_1 : Addr), v = some (.ref o0) ∧ Fr n0 L ∧ Keep h0 h [o0] ∧ h0.size ≤ b1_6_3_1 ∧ n0 ≤ b1_6_3_1 ∧ Exa Z h o0 z_s2 ∧ Fld Z h o0 z_s0 "value" "[B" (.ref b1_6_3_1) ∧ Fld Z h o0 z_s0 "coder" "B" (.int (0 : Int32)) ∧ Fld Z h o0 z_s0 "count" "I" (.int (22 : Int32)) ∧ ao0 Z h b1_6_3_1 34) := by
  refine aq0 (plainFor_of_name ar1) ?_
  intro p e s m below meth c s₁ P hx hby hml hrt hlk hown hnm hZ X0 e0 hP
  have N0 := Fr.nil n0
  have K0 := Keep.refl h0 [o0]
  have hml' : c.maxLocals = 2 := hml
  refine ar0 (c6 m o0 o1) ?_
  show ac0 p e below P (s₁.setTop (mkF m 0 #[.val (.ref o0), .val (.ref o1)] []))
  refine ab0 X0 hx (hb hby bp2) rfl rfl ?_
  refine ab0 X0 hx (hb hby bq2) rfl rfl ?_
  refine bp1 X0 hx hZ (y := (⟨z_s0, "append", z_s9⟩ : MethodName)) (z := (⟨z_s0, z_s6, "(I)V"⟩ : MethodName)) hown (z_w hw 49 rfl) (z_w hw 50 rfl) rfl (z_w hw 72 rfl) (z_w hw 51 rfl) (z_w hw 36 rfl) (z_w hw 53 rfl) E_o0 (cd7 l Z a0 hw [] o0 o1 ad0 ah0 aa0 h0 n0 (Nat.le_trans Z0 K0.1) E_o0 E_o1 al0 ai0 ay0 ac1 aa1 af0 aj0 at0 ab1 aw0 az1 ad1 hnz) 0 e0 hml' (argsL := [(.ref o1)]) (rest := []) (lenOf ap1 rfl) (hb hby br2) (fun r1 T1 L1 X1 hQ1 => ?_)
  obtain ⟨b1_6_3_1, rfl, Nq1, Kq1, af3, bh1, f0_1, f1_1, f2_1, f3_1, f4_1⟩ := hQ1
  have N1 := Fr.app N0 Nq1
  have ne2 := z_nc E_o0.lt af3
  have ne3 := z_nc E_o1.lt af3
  have ne4 := z_nc aj0.lt af3
  have ne5 := z_nc at0.lt af3
  have ba3 := Nat.le_trans K0.1 af3
  have K1 := Keep.trans K0 Kq1 (allS (Or.inl (List.mem_of_getElem? (i := 0) rfl)) all0)
  show ac0 p e below P (T1.setTop (mkF m 5 #[.val (.ref o0), .val (.ref o1)] [(.ref o0)]))
  refine bs5 X1 hx (hb hby bs2) rfl ?_
  refine ab0 X1 hx (hb hby bt2) rfl rfl ?_
  have hfin : ((fun (v : Option Value) (h : Heap) (L : List Loc) => ∃ (b1_6_3_1 : Addr), v = some (.ref o0) ∧ Fr n0 L ∧ Keep h0 h [o0] ∧ h0.size ≤ b1_6_3_1 ∧ n0 ≤ b1_6_3_1 ∧ Exa Z h o0 z_s2 ∧ Fld Z h o0 z_s0 "value" "[B" (.ref b1_6_3_1) ∧ Fld Z h o0 z_s0 "coder" "B" (.int (0 : Int32)) ∧ Fld Z h o0 z_s0 "count" "I" (.int (22 : Int32)) ∧ ao0 Z h b1_6_3_1 34)) (some (.ref o0)) T1.heap _ := ⟨b1_6_3_1, rfl, N1, K1, ba3, bh1, f0_1, f1_1, f2_1, f3_1, f4_1⟩
  refine as1 X1 hx hlk hP rfl rfl hrt (hb hby bu2) (by decide) (by decide) ?_
  exact hfin
theorem ca6 (m : MethodId) (o0 : Addr) (o1 : Addr) : entryFrame m #[(.ref o0), (.ref o1)] 3 = mkF m 0 #[.val (.ref o0), .val (.ref o1), .unset] [] := by first | (simp [entryFrame, mkF, argsToLocals, Value.category]; done) | rfl
set_option maxRecDepth 65536 in
set_option maxHeartbeats 40000000 in
theorem cf7 (l : Launch) (Z : State) (a0 : Array Value) (hw : ∀ d ∈ tables_1, d.before a0 Z = true) (ws : List Jvm.Cond) (o0 : Addr) (o1 : Addr) (ad0 : Addr) (ah0 : Addr) (aa0 : Int32) (h0 : Heap) (n0 : Nat) (Z0 : n0 ≤ h0.size) (E_o0 : Exa Z h0 o0 z_s2) (E_o1 : Exa Z h0 o1 z_s1) (al0 : Fld Z h0 o0 z_s0 "value" "[B" (.ref ad0)) (ai0 : Fld Z h0 o0 z_s0 "coder" "B" (.int (0 : Int32))) (ay0 : Fld Z h0 o0 z_s0 "count" "I" (.int (6 : Int32))) (ac1 : Fld Z h0 o1 z_s1 "value" "[B" (.ref ah0)) (aa1 : Fld Z h0 o1 z_s1 "coder" "B" (.int (0 : Int32))) (af0 : Sta Z h0 z_s1 z_s8 "Z" (.int aa0)) (aj0 : ao0 Z h0 ad0 16) (at0 : ao0 Z h0 ah0 17) (ab1 : n0 ≤ o0) (aw0 : o0 ≠ ad0) (az1 : o0 ≠ o1) (ad1 : o0 ≠ ah0) (hnz : ¬ (aa0 = (0 : Int32))) :
    as0 l Z (⟨z_s0, "append", z_s9⟩ : MethodName) jdk_68_method_22_code 3 (some (.object z_s0)) ws ({ frames := 4, cells := 1, slots := 34, locals := 69 } : Room) #[(.ref o0), (.ref o1)] h0 (fun (v : Option Value) (h : Heap) (L : List Loc) => ∃ (b1_6_3 : Addr), v = some (.ref o0) ∧ Fr n0 L ∧ Keep h0 h [o0] ∧ h0.size ≤ b1_6_3 ∧ n0 ≤ b1_6_3 ∧ Exa Z h o0 z_s2 ∧ Fld Z h o0 z_s0 "value" "[B" (.ref b1_6_3) ∧ Fld Z h o0 z_s0 "coder" "B" (.int (0 : Int32)) ∧ Fld Z h o0 z_s0 "count" "I" (.int (23 : Int32)) ∧ ao0 Z h b1_6_3 34) := by
  refine aq0 (plainFor_of_name ap0) ?_
  intro p e s m below meth c s₁ P hx hby hml hrt hlk hown hnm hZ X0 e0 hP
  have N0 := Fr.nil n0
  have K0 := Keep.refl h0 [o0]
  have hml' : c.maxLocals = 3 := hml
  refine ar0 (ca6 m o0 o1) ?_
  show ac0 p e below P (s₁.setTop (mkF m 0 #[.val (.ref o0), .val (.ref o1), .unset] []))
  refine ab0 X0 hx (hb hby bm2) rfl rfl ?_
  refine al7 X0 hx (pc' := 9) (hb hby bn2) ?_
  refine ab0 X0 hx (hb hby bo2) rfl rfl ?_
  refine ag2 X0 hx hZ (y := (⟨z_s1, "length", "()I"⟩ : MethodName)) (z := (⟨z_s1, "length", "()I"⟩ : MethodName)) hown (z_w hw 54 rfl) (z_w hw 55 rfl) (notFace_of_selects (args := #[]) (mvT hZ (z_w hw 57 rfl))) (z_w hw 57 rfl) (z_w hw 56 rfl) (z_w hw 16 rfl) (z_w hw 58 rfl) E_o1 (cp1 l Z a0 hw [] o1 ah0 aa0 h0 n0 (Nat.le_trans Z0 K0.1) E_o1 ac1 aa1 af0 at0 hnz) 0 e0 hml' (argsL := []) (rest := []) (lenOf az4 rfl) (hb hby ay9) (fun r1 T1 L1 X1 hQ1 => ?_)
  obtain ⟨rfl, Nq1, eq1⟩ := hQ1
  have N1 := Fr.app N0 Nq1
  show ac0 p e below P (T1.setTop (mkF m 13 #[.val (.ref o0), .val (.ref o1), .unset] [(.int (17 : Int32))]))
  refine aj2 X1 hx (hb hby az9) (l' := #[.val (.ref o0), .val (.ref o1), .val (.int (17 : Int32))]) rfl ?_
  refine ab0 X1 hx (hb hby b0) rfl rfl ?_
  refine ab0 X1 hx (hb hby ba0) rfl rfl ?_
  refine ak1 X1 hx hZ hown (host := "") (Or.inl (z_w hw 67 rfl)) Via.refl eq1 ay0 (hb hby bb0) (fun T2 X2 e2 => ?_)
  refine ae0 X2 hx (hb hby bc0) rfl ?_
  refine am2 X2 hx (hb hby bd0) (z := (23 : Int32)) rfl ?_
  refine a5 X2 hx hZ (y := (⟨z_s0, z_s6, "(I)V"⟩ : MethodName)) (z := (⟨z_s0, z_s6, "(I)V"⟩ : MethodName)) hown (z_w hw 69 rfl) (z_w hw 70 rfl) rfl (z_w hw 72 rfl) (z_w hw 71 rfl) (z_w hw 36 rfl) (z_w hw 73 rfl) E_o0 (dk7 l Z a0 hw [] o0 ad0 h0 n0 (Nat.le_trans Z0 K0.1) E_o0 al0 ai0 ay0 aj0 ab1 aw0) 0 e2 hml' (argsL := [(.int (23 : Int32))]) (rest := []) (lenOf am7 rfl) (hb hby be0) (fun r3 T3 L3 X3 hQ3 => ?_)
  obtain ⟨b1_6_3, rfl, Nq3, Kq3, am4, aj9, f0_3, f1_3, f2_3, f3_3, f4_3⟩ := hQ3
  have N3 := Fr.app N1 Nq3
  have ne4 := z_nc E_o0.lt am4
  have ne5 := z_nc E_o1.lt am4
  have ne6 := z_nc aj0.lt am4
  have ne7 := z_nc at0.lt am4
  have aq9 := Nat.le_trans K0.1 am4
  have K3 := Keep.trans K0 Kq3 (allS (Or.inl (List.mem_of_getElem? (i := 0) rfl)) all0)
  show ac0 p e below P (T3.setTop (mkF m 24 #[.val (.ref o0), .val (.ref o1), .val (.int (17 : Int32))] []))
  refine ab0 X3 hx (hb hby bf0) rfl rfl ?_
  refine ab0 X3 hx (hb hby bg0) rfl rfl ?_
  refine ak1 X3 hx hZ hown (host := "") (Or.inl (z_w hw 67 rfl)) Via.refl rfl f3_3 (hb hby bh0) (fun T8 X8 e8 => ?_)
  refine ab0 X8 hx (hb hby bi0) rfl rfl ?_
  have G10 := (E_o1.keep Kq3)
  have G11 := (ac1.keep Kq3 (ninS az1.symm nin0))
  have G12 := (aa1.keep Kq3 (ninS az1.symm nin0))
  have G13 := (an2 af0 Kq3 (allS (ah6 E_o0) all0))
  have G14 := (at0.keep Kq3 (ninS ad1.symm nin0))
  refine a5 X8 hx hZ (y := (⟨z_s0, "putStringAt", "(ILjava/lang/String;)V"⟩ : MethodName)) (z := (⟨z_s0, z_s6, "(I)V"⟩ : MethodName)) hown (z_w hw 74 rfl) (z_w hw 75 rfl) rfl (z_w hw 72 rfl) (z_w hw 76 rfl) (z_w hw 36 rfl) (z_w hw 78 rfl) f0_3 (cv6 l Z a0 hw [] o0 o1 b1_6_3 ah0 aa0 T3.heap n0 (Nat.le_trans Z0 K3.1) f0_3 G10 f1_3 f2_3 G11 G12 G13 G14 f4_3 aj9 ne4.symm ne5.symm ne7.symm hnz) 0 e8 hml' (argsL := [(.int (6 : Int32)), (.ref o1)]) (rest := []) (lenOf ab3 rfl) (hb hby bj0) (fun r9 T9 L9 X9 hQ9 => ?_)
  obtain ⟨rfl, Nq9, Kq9, f0_9⟩ := hQ9
  have N9 := Fr.app N3 Nq9
  have K9 := Keep.trans K3 Kq9 (allS (Or.inr aq9) all0)
  show ac0 p e below P (T9.setTop (mkF m 33 #[.val (.ref o0), .val (.ref o1), .val (.int (17 : Int32))] []))
  refine ab0 X9 hx (hb hby bk0) rfl rfl ?_
  refine an6 X9 hx (hb hby bl0) rfl ?_
  have G15 := (f3_3.keep Kq9 (ninS ne4 nin0))
  refine ak1 X9 hx hZ hown (host := "") (Or.inl (z_w hw 67 rfl)) Via.refl rfl G15 (hb hby bm0) (fun T16 X16 e16 => ?_)
  refine ae0 X16 hx (hb hby bn0) rfl ?_
  refine am2 X16 hx (hb hby bo0) (z := (23 : Int32)) rfl ?_
  have G17 := (f0_3.keep Kq9)
  refine aj7 X16 hx hZ hown (host := "") (Or.inl (z_w hw 67 rfl)) Via.refl e16 G15 G17 (Or.inl (z_w hw 68 rfl)) (z_w hw 27 rfl) (ty := .int) (by decide) (hb hby bp0) (fun T18 h18 X18 e18 W18 => ?_)
  have N18 := Fr.snoc X18 N9 ab1
  have K18 := Keep.wr K9 W18 (Or.inl (List.mem_of_getElem? (i := 0) rfl))
  have F18 := G15.same W18
  refine ab0 X18 hx (hb hby bq0) rfl rfl ?_
  have G19 := (G17.wr W18)
  have G20 := ((f1_3.keep Kq9 (ninS ne4 nin0)).other W18 (Or.inr (slot_ne (Or.inl (z_w hw 41 rfl)) (Or.inl (z_w hw 68 rfl)) (by decide) (t := (.array .byte)) (t' := .int) (by decide) (by decide))))
  have G21 := ((f2_3.keep Kq9 (ninS ne4 nin0)).other W18 (Or.inr (slot_ne (Or.inl (z_w hw 43 rfl)) (Or.inl (z_w hw 68 rfl)) (by decide) (t := .byte) (t' := .int) (by decide) (by decide))))
  have G22 := (f0_9.other W18 ne4.symm)
  have hfin : ((fun (v : Option Value) (h : Heap) (L : List Loc) => ∃ (b1_6_3 : Addr), v = some (.ref o0) ∧ Fr n0 L ∧ Keep h0 h [o0] ∧ h0.size ≤ b1_6_3 ∧ n0 ≤ b1_6_3 ∧ Exa Z h o0 z_s2 ∧ Fld Z h o0 z_s0 "value" "[B" (.ref b1_6_3) ∧ Fld Z h o0 z_s0 "coder" "B" (.int (0 : Int32)) ∧ Fld Z h o0 z_s0 "count" "I" (.int (23 : Int32)) ∧ ao0 Z h b1_6_3 34)) (some (.ref o0)) h18 _ := ⟨b1_6_3, rfl, N18, K18, aq9, aj9, G19, G20, G21, F18, G22⟩
  refine as1 X18 hx hlk hP rfl rfl hrt (hb hby br0) (by decide) (by decide) ?_
  rw [e18]; exact hfin
theorem cb6 (m : MethodId) (o0 : Addr) (o1 : Addr) : entryFrame m #[(.ref o0), (.ref o1)] 2 = mkF m 0 #[.val (.ref o0), .val (.ref o1)] [] := by first | (simp [entryFrame, mkF, argsToLocals, Value.category]; done) | rfl
set_option maxRecDepth 65536 in
set_option maxHeartbeats 40000000 in
theorem cg7 (l : Launch) (Z : State) (a0 : Array Value) (hw : ∀ d ∈ tables_1, d.before a0 Z = true) (ws : List Jvm.Cond) (o0 : Addr) (o1 : Addr) (ad0 : Addr) (ah0 : Addr) (aa0 : Int32) (h0 : Heap) (n0 : Nat) (Z0 : n0 ≤ h0.size) (E_o0 : Exa Z h0 o0 z_s2) (E_o1 : Exa Z h0 o1 z_s1) (al0 : Fld Z h0 o0 z_s0 "value" "[B" (.ref ad0)) (ai0 : Fld Z h0 o0 z_s0 "coder" "B" (.int (0 : Int32))) (ay0 : Fld Z h0 o0 z_s0 "count" "I" (.int (6 : Int32))) (ac1 : Fld Z h0 o1 z_s1 "value" "[B" (.ref ah0)) (aa1 : Fld Z h0 o1 z_s1 "coder" "B" (.int (0 : Int32))) (af0 : Sta Z h0 z_s1 z_s8 "Z" (.int aa0)) (aj0 : ao0 Z h0 ad0 16) (at0 : ao0 Z h0 ah0 17) (ab1 : n0 ≤ o0) (aw0 : o0 ≠ ad0) (az1 : o0 ≠ o1) (ad1 : o0 ≠ ah0) (hnz : ¬ (aa0 = (0 : Int32))) :
    as0 l Z (⟨z_s2, "append", z_s4⟩ : MethodName) jdk_67_method_7_code 2 (some (.object z_s2)) ws ({ frames := 5, cells := 1, slots := 34, locals := 83 } : Room) #[(.ref o0), (.ref o1)] h0 (fun (v : Option Value) (h : Heap) (L : List Loc) => ∃ (b1_6_3_1 : Addr), v = some (.ref o0) ∧ Fr n0 L ∧ Keep h0 h [o0] ∧ h0.size ≤ b1_6_3_1 ∧ n0 ≤ b1_6_3_1 ∧ Exa Z h o0 z_s2 ∧ Fld Z h o0 z_s0 "value" "[B" (.ref b1_6_3_1) ∧ Fld Z h o0 z_s0 "coder" "B" (.int (0 : Int32)) ∧ Fld Z h o0 z_s0 "count" "I" (.int (23 : Int32)) ∧ ao0 Z h b1_6_3_1 34) := by
  refine aq0 (plainFor_of_name ar1) ?_
  intro p e s m below meth c s₁ P hx hby hml hrt hlk hown hnm hZ X0 e0 hP
  have N0 := Fr.nil n0
  have K0 := Keep.refl h0 [o0]
  have hml' : c.maxLocals = 2 := hml
  refine ar0 (cb6 m o0 o1) ?_
  show ac0 p e below P (s₁.setTop (mkF m 0 #[.val (.ref o0), .val (.ref o1)] []))
  refine ab0 X0 hx (hb hby bp2) rfl rfl ?_
  refine ab0 X0 hx (hb hby bq2) rfl rfl ?_
  refine bp1 X0 hx hZ (y := (⟨z_s0, "append", z_s9⟩ : MethodName)) (z := (⟨z_s0, z_s6, "(I)V"⟩ : MethodName)) hown (z_w hw 49 rfl) (z_w hw 50 rfl) rfl (z_w hw 72 rfl) (z_w hw 51 rfl) (z_w hw 36 rfl) (z_w hw 53 rfl) E_o0 (cf7 l Z a0 hw [] o0 o1 ad0 ah0 aa0 h0 n0 (Nat.le_trans Z0 K0.1) E_o0 E_o1 al0 ai0 ay0 ac1 aa1 af0 aj0 at0 ab1 aw0 az1 ad1 hnz) 0 e0 hml' (argsL := [(.ref o1)]) (rest := []) (lenOf ap1 rfl) (hb hby br2) (fun r1 T1 L1 X1 hQ1 => ?_)
  obtain ⟨b1_6_3_1, rfl, Nq1, Kq1, af3, bh1, f0_1, f1_1, f2_1, f3_1, f4_1⟩ := hQ1
  have N1 := Fr.app N0 Nq1
  have ne2 := z_nc E_o0.lt af3
  have ne3 := z_nc E_o1.lt af3
  have ne4 := z_nc aj0.lt af3
  have ne5 := z_nc at0.lt af3
  have ba3 := Nat.le_trans K0.1 af3
  have K1 := Keep.trans K0 Kq1 (allS (Or.inl (List.mem_of_getElem? (i := 0) rfl)) all0)
  show ac0 p e below P (T1.setTop (mkF m 5 #[.val (.ref o0), .val (.ref o1)] [(.ref o0)]))
  refine bs5 X1 hx (hb hby bs2) rfl ?_
  refine ab0 X1 hx (hb hby bt2) rfl rfl ?_
  have hfin : ((fun (v : Option Value) (h : Heap) (L : List Loc) => ∃ (b1_6_3_1 : Addr), v = some (.ref o0) ∧ Fr n0 L ∧ Keep h0 h [o0] ∧ h0.size ≤ b1_6_3_1 ∧ n0 ≤ b1_6_3_1 ∧ Exa Z h o0 z_s2 ∧ Fld Z h o0 z_s0 "value" "[B" (.ref b1_6_3_1) ∧ Fld Z h o0 z_s0 "coder" "B" (.int (0 : Int32)) ∧ Fld Z h o0 z_s0 "count" "I" (.int (23 : Int32)) ∧ ao0 Z h b1_6_3_1 34)) (some (.ref o0)) T1.heap _ := ⟨b1_6_3_1, rfl, N1, K1, ba3, bh1, f0_1, f1_1, f2_1, f3_1, f4_1⟩
  refine as1 X1 hx hlk hP rfl rfl hrt (hb hby bu2) (by decide) (by decide) ?_
  exact hfin
theorem cc6 (m : MethodId) (o0 : Addr) (o1 : Addr) : entryFrame m #[(.ref o0), (.ref o1)] 3 = mkF m 0 #[.val (.ref o0), .val (.ref o1), .unset] [] := by first | (simp [entryFrame, mkF, argsToLocals, Value.category]; done) | rfl
set_option maxRecDepth 65536 in
set_option maxHeartbeats 40000000 in
theorem ch7 (l : Launch) (Z : State) (a0 : Array Value) (hw : ∀ d ∈ tables_1, d.before a0 Z = true) (ws : List Jvm.Cond) (o0 : Addr) (o1 : Addr) (ad0 : Addr) (ah0 : Addr) (aa0 : Int32) (h0 : Heap) (n0 : Nat) (Z0 : n0 ≤ h0.size) (E_o0 : Exa Z h0 o0 z_s2) (E_o1 : Exa Z h0 o1 z_s1) (al0 : Fld Z h0 o0 z_s0 "value" "[B" (.ref ad0)) (ai0 : Fld Z h0 o0 z_s0 "coder" "B" (.int (0 : Int32))) (ay0 : Fld Z h0 o0 z_s0 "count" "I" (.int (7 : Int32))) (ac1 : Fld Z h0 o1 z_s1 "value" "[B" (.ref ah0)) (aa1 : Fld Z h0 o1 z_s1 "coder" "B" (.int (0 : Int32))) (af0 : Sta Z h0 z_s1 z_s8 "Z" (.int aa0)) (aj0 : ao0 Z h0 ad0 16) (at0 : ao0 Z h0 ah0 17) (ab1 : n0 ≤ o0) (aw0 : o0 ≠ ad0) (az1 : o0 ≠ o1) (ad1 : o0 ≠ ah0) (hnz : ¬ (aa0 = (0 : Int32))) :
    as0 l Z (⟨z_s0, "append", z_s9⟩ : MethodName) jdk_68_method_22_code 3 (some (.object z_s0)) ws ({ frames := 4, cells := 1, slots := 34, locals := 69 } : Room) #[(.ref o0), (.ref o1)] h0 (fun (v : Option Value) (h : Heap) (L : List Loc) => ∃ (b1_6_3 : Addr), v = some (.ref o0) ∧ Fr n0 L ∧ Keep h0 h [o0] ∧ h0.size ≤ b1_6_3 ∧ n0 ≤ b1_6_3 ∧ Exa Z h o0 z_s2 ∧ Fld Z h o0 z_s0 "value" "[B" (.ref b1_6_3) ∧ Fld Z h o0 z_s0 "coder" "B" (.int (0 : Int32)) ∧ Fld Z h o0 z_s0 "count" "I" (.int (24 : Int32)) ∧ ao0 Z h b1_6_3 34) := by
  refine aq0 (plainFor_of_name ap0) ?_
  intro p e s m below meth c s₁ P hx hby hml hrt hlk hown hnm hZ X0 e0 hP
  have N0 := Fr.nil n0
  have K0 := Keep.refl h0 [o0]
  have hml' : c.maxLocals = 3 := hml
  refine ar0 (cc6 m o0 o1) ?_
  show ac0 p e below P (s₁.setTop (mkF m 0 #[.val (.ref o0), .val (.ref o1), .unset] []))
  refine ab0 X0 hx (hb hby bm2) rfl rfl ?_
  refine al7 X0 hx (pc' := 9) (hb hby bn2) ?_
  refine ab0 X0 hx (hb hby bo2) rfl rfl ?_
  refine ag2 X0 hx hZ (y := (⟨z_s1, "length", "()I"⟩ : MethodName)) (z := (⟨z_s1, "length", "()I"⟩ : MethodName)) hown (z_w hw 54 rfl) (z_w hw 55 rfl) (notFace_of_selects (args := #[]) (mvT hZ (z_w hw 57 rfl))) (z_w hw 57 rfl) (z_w hw 56 rfl) (z_w hw 16 rfl) (z_w hw 58 rfl) E_o1 (cp1 l Z a0 hw [] o1 ah0 aa0 h0 n0 (Nat.le_trans Z0 K0.1) E_o1 ac1 aa1 af0 at0 hnz) 0 e0 hml' (argsL := []) (rest := []) (lenOf az4 rfl) (hb hby ay9) (fun r1 T1 L1 X1 hQ1 => ?_)
  obtain ⟨rfl, Nq1, eq1⟩ := hQ1
  have N1 := Fr.app N0 Nq1
  show ac0 p e below P (T1.setTop (mkF m 13 #[.val (.ref o0), .val (.ref o1), .unset] [(.int (17 : Int32))]))
  refine aj2 X1 hx (hb hby az9) (l' := #[.val (.ref o0), .val (.ref o1), .val (.int (17 : Int32))]) rfl ?_
  refine ab0 X1 hx (hb hby b0) rfl rfl ?_
  refine ab0 X1 hx (hb hby ba0) rfl rfl ?_
  refine ak1 X1 hx hZ hown (host := "") (Or.inl (z_w hw 67 rfl)) Via.refl eq1 ay0 (hb hby bb0) (fun T2 X2 e2 => ?_)
  refine ae0 X2 hx (hb hby bc0) rfl ?_
  refine am2 X2 hx (hb hby bd0) (z := (24 : Int32)) rfl ?_
  refine a5 X2 hx hZ (y := (⟨z_s0, z_s6, "(I)V"⟩ : MethodName)) (z := (⟨z_s0, z_s6, "(I)V"⟩ : MethodName)) hown (z_w hw 69 rfl) (z_w hw 70 rfl) rfl (z_w hw 72 rfl) (z_w hw 71 rfl) (z_w hw 36 rfl) (z_w hw 73 rfl) E_o0 (dn7 l Z a0 hw [] o0 ad0 h0 n0 (Nat.le_trans Z0 K0.1) E_o0 al0 ai0 ay0 aj0 ab1 aw0) 0 e2 hml' (argsL := [(.int (24 : Int32))]) (rest := []) (lenOf am7 rfl) (hb hby be0) (fun r3 T3 L3 X3 hQ3 => ?_)
  obtain ⟨b1_6_3, rfl, Nq3, Kq3, am4, aj9, f0_3, f1_3, f2_3, f3_3, f4_3⟩ := hQ3
  have N3 := Fr.app N1 Nq3
  have ne4 := z_nc E_o0.lt am4
  have ne5 := z_nc E_o1.lt am4
  have ne6 := z_nc aj0.lt am4
  have ne7 := z_nc at0.lt am4
  have aq9 := Nat.le_trans K0.1 am4
  have K3 := Keep.trans K0 Kq3 (allS (Or.inl (List.mem_of_getElem? (i := 0) rfl)) all0)
  show ac0 p e below P (T3.setTop (mkF m 24 #[.val (.ref o0), .val (.ref o1), .val (.int (17 : Int32))] []))
  refine ab0 X3 hx (hb hby bf0) rfl rfl ?_
  refine ab0 X3 hx (hb hby bg0) rfl rfl ?_
  refine ak1 X3 hx hZ hown (host := "") (Or.inl (z_w hw 67 rfl)) Via.refl rfl f3_3 (hb hby bh0) (fun T8 X8 e8 => ?_)
  refine ab0 X8 hx (hb hby bi0) rfl rfl ?_
  have G10 := (E_o1.keep Kq3)
  have G11 := (ac1.keep Kq3 (ninS az1.symm nin0))
  have G12 := (aa1.keep Kq3 (ninS az1.symm nin0))
  have G13 := (an2 af0 Kq3 (allS (ah6 E_o0) all0))
  have G14 := (at0.keep Kq3 (ninS ad1.symm nin0))
  refine a5 X8 hx hZ (y := (⟨z_s0, "putStringAt", "(ILjava/lang/String;)V"⟩ : MethodName)) (z := (⟨z_s0, z_s6, "(I)V"⟩ : MethodName)) hown (z_w hw 74 rfl) (z_w hw 75 rfl) rfl (z_w hw 72 rfl) (z_w hw 76 rfl) (z_w hw 36 rfl) (z_w hw 78 rfl) f0_3 (cx6 l Z a0 hw [] o0 o1 b1_6_3 ah0 aa0 T3.heap n0 (Nat.le_trans Z0 K3.1) f0_3 G10 f1_3 f2_3 G11 G12 G13 G14 f4_3 aj9 ne4.symm ne5.symm ne7.symm hnz) 0 e8 hml' (argsL := [(.int (7 : Int32)), (.ref o1)]) (rest := []) (lenOf ab3 rfl) (hb hby bj0) (fun r9 T9 L9 X9 hQ9 => ?_)
  obtain ⟨rfl, Nq9, Kq9, f0_9⟩ := hQ9
  have N9 := Fr.app N3 Nq9
  have K9 := Keep.trans K3 Kq9 (allS (Or.inr aq9) all0)
  show ac0 p e below P (T9.setTop (mkF m 33 #[.val (.ref o0), .val (.ref o1), .val (.int (17 : Int32))] []))
  refine ab0 X9 hx (hb hby bk0) rfl rfl ?_
  refine an6 X9 hx (hb hby bl0) rfl ?_
  have G15 := (f3_3.keep Kq9 (ninS ne4 nin0))
  refine ak1 X9 hx hZ hown (host := "") (Or.inl (z_w hw 67 rfl)) Via.refl rfl G15 (hb hby bm0) (fun T16 X16 e16 => ?_)
  refine ae0 X16 hx (hb hby bn0) rfl ?_
  refine am2 X16 hx (hb hby bo0) (z := (24 : Int32)) rfl ?_
  have G17 := (f0_3.keep Kq9)
  refine aj7 X16 hx hZ hown (host := "") (Or.inl (z_w hw 67 rfl)) Via.refl e16 G15 G17 (Or.inl (z_w hw 68 rfl)) (z_w hw 27 rfl) (ty := .int) (by decide) (hb hby bp0) (fun T18 h18 X18 e18 W18 => ?_)
  have N18 := Fr.snoc X18 N9 ab1
  have K18 := Keep.wr K9 W18 (Or.inl (List.mem_of_getElem? (i := 0) rfl))
  have F18 := G15.same W18
  refine ab0 X18 hx (hb hby bq0) rfl rfl ?_
  have G19 := (G17.wr W18)
  have G20 := ((f1_3.keep Kq9 (ninS ne4 nin0)).other W18 (Or.inr (slot_ne (Or.inl (z_w hw 41 rfl)) (Or.inl (z_w hw 68 rfl)) (by decide) (t := (.array .byte)) (t' := .int) (by decide) (by decide))))
  have G21 := ((f2_3.keep Kq9 (ninS ne4 nin0)).other W18 (Or.inr (slot_ne (Or.inl (z_w hw 43 rfl)) (Or.inl (z_w hw 68 rfl)) (by decide) (t := .byte) (t' := .int) (by decide) (by decide))))
  have G22 := (f0_9.other W18 ne4.symm)
  have hfin : ((fun (v : Option Value) (h : Heap) (L : List Loc) => ∃ (b1_6_3 : Addr), v = some (.ref o0) ∧ Fr n0 L ∧ Keep h0 h [o0] ∧ h0.size ≤ b1_6_3 ∧ n0 ≤ b1_6_3 ∧ Exa Z h o0 z_s2 ∧ Fld Z h o0 z_s0 "value" "[B" (.ref b1_6_3) ∧ Fld Z h o0 z_s0 "coder" "B" (.int (0 : Int32)) ∧ Fld Z h o0 z_s0 "count" "I" (.int (24 : Int32)) ∧ ao0 Z h b1_6_3 34)) (some (.ref o0)) h18 _ := ⟨b1_6_3, rfl, N18, K18, aq9, aj9, G19, G20, G21, F18, G22⟩
  refine as1 X18 hx hlk hP rfl rfl hrt (hb hby br0) (by decide) (by decide) ?_
  rw [e18]; exact hfin
theorem cd6 (m : MethodId) (o0 : Addr) (o1 : Addr) : entryFrame m #[(.ref o0), (.ref o1)] 2 = mkF m 0 #[.val (.ref o0), .val (.ref o1)] [] := by first | (simp [entryFrame, mkF, argsToLocals, Value.category]; done) | rfl
set_option maxRecDepth 65536 in
set_option maxHeartbeats 40000000 in
theorem ci7 (l : Launch) (Z : State) (a0 : Array Value) (hw : ∀ d ∈ tables_1, d.before a0 Z = true) (ws : List Jvm.Cond) (o0 : Addr) (o1 : Addr) (ad0 : Addr) (ah0 : Addr) (aa0 : Int32) (h0 : Heap) (n0 : Nat) (Z0 : n0 ≤ h0.size) (E_o0 : Exa Z h0 o0 z_s2) (E_o1 : Exa Z h0 o1 z_s1) (al0 : Fld Z h0 o0 z_s0 "value" "[B" (.ref ad0)) (ai0 : Fld Z h0 o0 z_s0 "coder" "B" (.int (0 : Int32))) (ay0 : Fld Z h0 o0 z_s0 "count" "I" (.int (7 : Int32))) (ac1 : Fld Z h0 o1 z_s1 "value" "[B" (.ref ah0)) (aa1 : Fld Z h0 o1 z_s1 "coder" "B" (.int (0 : Int32))) (af0 : Sta Z h0 z_s1 z_s8 "Z" (.int aa0)) (aj0 : ao0 Z h0 ad0 16) (at0 : ao0 Z h0 ah0 17) (ab1 : n0 ≤ o0) (aw0 : o0 ≠ ad0) (az1 : o0 ≠ o1) (ad1 : o0 ≠ ah0) (hnz : ¬ (aa0 = (0 : Int32))) :
    as0 l Z (⟨z_s2, "append", z_s4⟩ : MethodName) jdk_67_method_7_code 2 (some (.object z_s2)) ws ({ frames := 5, cells := 1, slots := 34, locals := 83 } : Room) #[(.ref o0), (.ref o1)] h0 (fun (v : Option Value) (h : Heap) (L : List Loc) => ∃ (b1_6_3_1 : Addr), v = some (.ref o0) ∧ Fr n0 L ∧ Keep h0 h [o0] ∧ h0.size ≤ b1_6_3_1 ∧ n0 ≤ b1_6_3_1 ∧ Exa Z h o0 z_s2 ∧ Fld Z h o0 z_s0 "value" "[B" (.ref b1_6_3_1) ∧ Fld Z h o0 z_s0 "coder" "B" (.int (0 : Int32)) ∧ Fld Z h o0 z_s0 "count" "I" (.int (24 : Int32)) ∧ ao0 Z h b1_6_3_1 34) := by
  refine aq0 (plainFor_of_name ar1) ?_
  intro p e s m below meth c s₁ P hx hby hml hrt hlk hown hnm hZ X0 e0 hP
  have N0 := Fr.nil n0
  have K0 := Keep.refl h0 [o0]
  have hml' : c.maxLocals = 2 := hml
  refine ar0 (cd6 m o0 o1) ?_
  show ac0 p e below P (s₁.setTop (mkF m 0 #[.val (.ref o0), .val (.ref o1)] []))
  refine ab0 X0 hx (hb hby bp2) rfl rfl ?_
  refine ab0 X0 hx (hb hby bq2) rfl rfl ?_
  refine bp1 X0 hx hZ (y := (⟨z_s0, "append", z_s9⟩ : MethodName)) (z := (⟨z_s0, z_s6, "(I)V"⟩ : MethodName)) hown (z_w hw 49 rfl) (z_w hw 50 rfl) rfl (z_w hw 72 rfl) (z_w hw 51 rfl) (z_w hw 36 rfl) (z_w hw 53 rfl) E_o0 (ch7 l Z a0 hw [] o0 o1 ad0 ah0 aa0 h0 n0 (Nat.le_trans Z0 K0.1) E_o0 E_o1 al0 ai0 ay0 ac1 aa1 af0 aj0 at0 ab1 aw0 az1 ad1 hnz) 0 e0 hml' (argsL := [(.ref o1)]) (rest := []) (lenOf ap1 rfl) (hb hby br2) (fun r1 T1 L1 X1 hQ1 => ?_)
  obtain ⟨b1_6_3_1, rfl, Nq1, Kq1, af3, bh1, f0_1, f1_1, f2_1, f3_1, f4_1⟩ := hQ1
  have N1 := Fr.app N0 Nq1
  have ne2 := z_nc E_o0.lt af3
  have ne3 := z_nc E_o1.lt af3
  have ne4 := z_nc aj0.lt af3
  have ne5 := z_nc at0.lt af3
  have ba3 := Nat.le_trans K0.1 af3
  have K1 := Keep.trans K0 Kq1 (allS (Or.inl (List.mem_of_getElem? (i := 0) rfl)) all0)
  show ac0 p e below P (T1.setTop (mkF m 5 #[.val (.ref o0), .val (.ref o1)] [(.ref o0)]))
  refine bs5 X1 hx (hb hby bs2) rfl ?_
  refine ab0 X1 hx (hb hby bt2) rfl rfl ?_
  have hfin : ((fun (v : Option Value) (h : Heap) (L : List Loc) => ∃ (b1_6_3_1 : Addr), v = some (.ref o0) ∧ Fr n0 L ∧ Keep h0 h [o0] ∧ h0.size ≤ b1_6_3_1 ∧ n0 ≤ b1_6_3_1 ∧ Exa Z h o0 z_s2 ∧ Fld Z h o0 z_s0 "value" "[B" (.ref b1_6_3_1) ∧ Fld Z h o0 z_s0 "coder" "B" (.int (0 : Int32)) ∧ Fld Z h o0 z_s0 "count" "I" (.int (24 : Int32)) ∧ ao0 Z h b1_6_3_1 34)) (some (.ref o0)) T1.heap _ := ⟨b1_6_3_1, rfl, N1, K1, ba3, bh1, f0_1, f1_1, f2_1, f3_1, f4_1⟩
  refine as1 X1 hx hlk hP rfl rfl hrt (hb hby bu2) (by decide) (by decide) ?_
  exact hfin
theorem de2 : decode jdk_68_method_64_code 0 = .ok (.aload_n 0, 1) := by decide +kernel
theorem df2 : decode jdk_68_method_64_code 1 = .ok (.getfield 15, 3) := by decide +kernel
theorem dg2 : decode jdk_68_method_64_code 4 = .ok (.areturn, 1) := by decide +kernel
theorem es0 (m : MethodId) (o0 : Addr) : entryFrame m #[(.ref o0)] 1 = mkF m 0 #[.val (.ref o0)] [] := by first | (simp [entryFrame, mkF, argsToLocals, Value.category]; done) | rfl
set_option maxRecDepth 65536 in
set_option maxHeartbeats 40000000 in
theorem ch5 (l : Launch) (Z : State) (a0 : Array Value) (hw : ∀ d ∈ tables_1, d.before a0 Z = true) (ws : List Jvm.Cond) (o0 : Addr) (ad0 : Addr) (h0 : Heap) (n0 : Nat) (Z0 : n0 ≤ h0.size) (al0 : Fld Z h0 o0 z_s0 "value" "[B" (.ref ad0)) :
    as0 l Z (⟨z_s0, "getValue", "()[B"⟩ : MethodName) jdk_68_method_64_code 1 (some (.array .byte)) ws ({ frames := 0, cells := 0, slots := 0, locals := 0 } : Room) #[(.ref o0)] h0 (fun (v : Option Value) (h : Heap) (L : List Loc) => v = some (.ref ad0) ∧ Fr n0 L ∧ h = h0) := by
  refine aq0 (plainFor_of_name ap0) ?_
  intro p e s m below meth c s₁ P hx hby hml hrt hlk hown hnm hZ X0 e0 hP
  have N0 := Fr.nil n0
  have K0 := Keep.refl h0 []
  have hml' : c.maxLocals = 1 := hml
  refine ar0 (es0 m o0) ?_
  show ac0 p e below P (s₁.setTop (mkF m 0 #[.val (.ref o0)] []))
  refine ab0 X0 hx (hb hby de2) rfl rfl ?_
  refine ak1 X0 hx hZ hown (host := "") (Or.inl (z_w hw 40 rfl)) Via.refl e0 al0 (hb hby df2) (fun T1 X1 e1 => ?_)
  exact as1 X1 hx hlk hP rfl rfl hrt (hb hby dg2) (by decide) (by decide) ⟨rfl, N0, e1⟩
theorem dh2 : decode jdk_68_method_68_code 0 = .ok (.getstatic 18, 3) := by decide +kernel
theorem di2 : decode jdk_68_method_68_code 3 = .ok (.ifCond .eq 14, 3) := by decide +kernel
theorem dj2 : decode jdk_68_method_68_code 6 = .ok (.aload_n 0, 1) := by decide +kernel
theorem dk2 : decode jdk_68_method_68_code 7 = .ok (.getfield 22, 3) := by decide +kernel
theorem cj7 : decode jdk_68_method_68_code 10 = .ok (.ifCond .ne 7, 3) := by decide +kernel
theorem ck7 : decode jdk_68_method_68_code 13 = .ok (.iconst 1, 1) := by decide +kernel
theorem cl7 : decode jdk_68_method_68_code 14 = .ok (.goto 4, 3) := by decide +kernel
theorem cm7 : decode jdk_68_method_68_code 18 = .ok (.ireturn, 1) := by decide +kernel
theorem do7 (m : MethodId) (o0 : Addr) : entryFrame m #[(.ref o0)] 1 = mkF m 0 #[.val (.ref o0)] [] := by first | (simp [entryFrame, mkF, argsToLocals, Value.category]; done) | rfl
set_option maxRecDepth 65536 in
set_option maxHeartbeats 40000000 in
theorem ct4 (l : Launch) (Z : State) (a0 : Array Value) (hw : ∀ d ∈ tables_1, d.before a0 Z = true) (ws : List Jvm.Cond) (o0 : Addr) (aa0 : Int32) (h0 : Heap) (n0 : Nat) (Z0 : n0 ≤ h0.size) (ai0 : Fld Z h0 o0 z_s0 "coder" "B" (.int (0 : Int32))) (af0 : Sta Z h0 z_s1 z_s8 "Z" (.int aa0)) (hnz : ¬ (aa0 = (0 : Int32))) :
    as0 l Z (⟨z_s0, "isLatin1", "()Z"⟩ : MethodName) jdk_68_method_68_code 1 (some .boolean) ws ({ frames := 0, cells := 0, slots := 0, locals := 0 } : Room) #[(.ref o0)] h0 (fun (v : Option Value) (h : Heap) (L : List Loc) => v = some (.int (1 : Int32)) ∧ Fr n0 L ∧ h = h0) := by
  refine aq0 (plainFor_of_name ap0) ?_
  intro p e s m below meth c s₁ P hx hby hml hrt hlk hown hnm hZ X0 e0 hP
  have N0 := Fr.nil n0
  have K0 := Keep.refl h0 []
  have hml' : c.maxLocals = 1 := hml
  refine ar0 (do7 m o0) ?_
  show ac0 p e below P (s₁.setTop (mkF m 0 #[.val (.ref o0)] []))
  refine cz4 X0 hx hZ hown (host := "") (Or.inl (z_w hw 39 rfl)) Via.refl e0 af0 (hb hby dh2) (fun T1 X1 e1 => ?_)
  refine aa3 X1 hx (hb hby di2) ((if0 _ _).trans (feq hnz).1) ?_
  refine ab0 X1 hx (hb hby dj2) rfl rfl ?_
  refine ak1 X1 hx hZ hown (host := "") (Or.inl (z_w hw 42 rfl)) Via.refl e1 ai0 (hb hby dk2) (fun T2 X2 e2 => ?_)
  refine aa3 X2 hx (hb hby cj7) ((if0 _ _).trans (teq (by decide : (0 : Int32) = (0 : Int32))).2) ?_
  refine am0 X2 hx (hb hby ck7) (z := (1 : Int32)) rfl ?_
  refine am1 X2 hx (pc' := 18) (hb hby cl7) ?_
  exact bx6 X2 hx hlk hP (t := .boolean) (by simp) hrt (hb hby cm7) (by decide) (by decide) ⟨rfl, N0, e2⟩
theorem cf2 : decode jdk_68_method_6_code 0 = .ok (.aload_n 0, 1) := by decide +kernel
theorem cg2 : decode jdk_68_method_6_code 1 = .ok (.getfield 79, 3) := by decide +kernel
theorem ch2 : decode jdk_68_method_6_code 4 = .ok (.ireturn, 1) := by decide +kernel
theorem dl2 (m : MethodId) (o0 : Addr) : entryFrame m #[(.ref o0)] 1 = mkF m 0 #[.val (.ref o0)] [] := by first | (simp [entryFrame, mkF, argsToLocals, Value.category]; done) | rfl
set_option maxRecDepth 65536 in
set_option maxHeartbeats 40000000 in
theorem dp7 (l : Launch) (Z : State) (a0 : Array Value) (hw : ∀ d ∈ tables_1, d.before a0 Z = true) (ws : List Jvm.Cond) (o0 : Addr)  (h0 : Heap) (n0 : Nat) (Z0 : n0 ≤ h0.size) (ay0 : Fld Z h0 o0 z_s0 "count" "I" (.int (22 : Int32))) :
    as0 l Z (⟨z_s0, "length", "()I"⟩ : MethodName) jdk_68_method_6_code 1 (some .int) ws ({ frames := 0, cells := 0, slots := 0, locals := 0 } : Room) #[(.ref o0)] h0 (fun (v : Option Value) (h : Heap) (L : List Loc) => v = some (.int (22 : Int32)) ∧ Fr n0 L ∧ h = h0) := by
  refine aq0 (plainFor_of_name ap0) ?_
  intro p e s m below meth c s₁ P hx hby hml hrt hlk hown hnm hZ X0 e0 hP
  have N0 := Fr.nil n0
  have K0 := Keep.refl h0 []
  have hml' : c.maxLocals = 1 := hml
  refine ar0 (dl2 m o0) ?_
  show ac0 p e below P (s₁.setTop (mkF m 0 #[.val (.ref o0)] []))
  refine ab0 X0 hx (hb hby cf2) rfl rfl ?_
  refine ak1 X0 hx hZ hown (host := "") (Or.inl (z_w hw 67 rfl)) Via.refl e0 ay0 (hb hby cg2) (fun T1 X1 e1 => ?_)
  exact aq4 X1 hx hlk hP hrt (hb hby ch2) (by decide) (by decide) ⟨rfl, N0, e1⟩
theorem ci2 : decode jdk_67_method_93_code 0 = .ok (.aload_n 0, 1) := by decide +kernel
theorem cj2 : decode jdk_67_method_93_code 1 = .ok (.invokespecial 343, 3) := by decide +kernel
theorem ck2 : decode jdk_67_method_93_code 4 = .ok (.ireturn, 1) := by decide +kernel
theorem dm2 (m : MethodId) (o0 : Addr) : entryFrame m #[(.ref o0)] 1 = mkF m 0 #[.val (.ref o0)] [] := by first | (simp [entryFrame, mkF, argsToLocals, Value.category]; done) | rfl
set_option maxRecDepth 65536 in
set_option maxHeartbeats 40000000 in
theorem dq7 (l : Launch) (Z : State) (a0 : Array Value) (hw : ∀ d ∈ tables_1, d.before a0 Z = true) (ws : List Jvm.Cond) (o0 : Addr)  (h0 : Heap) (n0 : Nat) (Z0 : n0 ≤ h0.size) (E_o0 : Exa Z h0 o0 z_s2) (ay0 : Fld Z h0 o0 z_s0 "count" "I" (.int (22 : Int32))) :
    as0 l Z (⟨z_s2, "length", "()I"⟩ : MethodName) jdk_67_method_93_code 1 (some .int) ws ({ frames := 1, cells := 0, slots := 0, locals := 12 } : Room) #[(.ref o0)] h0 (fun (v : Option Value) (h : Heap) (L : List Loc) => v = some (.int (22 : Int32)) ∧ Fr n0 L ∧ h = h0) := by
  refine aq0 (plainFor_of_name ar1) ?_
  intro p e s m below meth c s₁ P hx hby hml hrt hlk hown hnm hZ X0 e0 hP
  have N0 := Fr.nil n0
  have K0 := Keep.refl h0 []
  have hml' : c.maxLocals = 1 := hml
  refine ar0 (dm2 m o0) ?_
  show ac0 p e below P (s₁.setTop (mkF m 0 #[.val (.ref o0)] []))
  refine ab0 X0 hx (hb hby ci2) rfl rfl ?_
  refine bp1 X0 hx hZ (y := (⟨z_s0, "length", "()I"⟩ : MethodName)) (z := (⟨z_s0, z_s6, "(I)V"⟩ : MethodName)) hown (z_w hw 143 rfl) (z_w hw 139 rfl) rfl (z_w hw 72 rfl) (z_w hw 51 rfl) (z_w hw 36 rfl) (z_w hw 144 rfl) E_o0 (dp7 l Z a0 hw [] o0  h0 n0 (Nat.le_trans Z0 K0.1) ay0) 0 e0 hml' (argsL := []) (rest := []) (lenOf az4 rfl) (hb hby cj2) (fun r1 T1 L1 X1 hQ1 => ?_)
  obtain ⟨rfl, Nq1, eq1⟩ := hQ1
  have N1 := Fr.app N0 Nq1
  show ac0 p e below P (T1.setTop (mkF m 4 #[.val (.ref o0)] [(.int (22 : Int32))]))
  exact aq4 X1 hx hlk hP hrt (hb hby ck2) (by decide) (by decide) ⟨rfl, N1, eq1⟩
theorem cl2 : decode jdk_65_method_131_code 0 = .ok (.iload_n 1, 1) := by decide +kernel
theorem cm2 : decode jdk_65_method_131_code 1 = .ok (.iload_n 0, 1) := by decide +kernel
theorem cn2 : decode jdk_65_method_131_code 2 = .ok (.if_icmp .ge 35, 3) := by decide +kernel
theorem bv9 : decode jdk_65_method_131_code 37 = .ok (.return_, 1) := by decide +kernel
theorem dn2 (m : MethodId)  : entryFrame m #[(.int (0 : Int32)), (.int (22 : Int32))] 2 = mkF m 0 #[.val (.int (0 : Int32)), .val (.int (22 : Int32))] [] := by first | (simp [entryFrame, mkF, argsToLocals, Value.category]; done) | rfl
set_option maxRecDepth 65536 in
set_option maxHeartbeats 40000000 in
theorem dr7 (l : Launch) (Z : State) (a0 : Array Value) (hw : ∀ d ∈ tables_1, d.before a0 Z = true) (ws : List Jvm.Cond)   (h0 : Heap) (n0 : Nat) (Z0 : n0 ≤ h0.size)  :
    as0 l Z (⟨z_s5, "checkLength", "(II)V"⟩ : MethodName) jdk_65_method_131_code 2 none ws ({ frames := 0, cells := 0, slots := 0, locals := 0 } : Room) #[(.int (0 : Int32)), (.int (22 : Int32))] h0 (fun (v : Option Value) (h : Heap) (L : List Loc) => v = none ∧ Fr n0 L ∧ h = h0) := by
  refine aq0 (plainFor_of_name az0) ?_
  intro p e s m below meth c s₁ P hx hby hml hrt hlk hown hnm hZ X0 e0 hP
  have N0 := Fr.nil n0
  have K0 := Keep.refl h0 []
  have hml' : c.maxLocals = 2 := hml
  refine ar0 (dn2 m ) ?_
  show ac0 p e below P (s₁.setTop (mkF m 0 #[.val (.int (0 : Int32)), .val (.int (22 : Int32))] []))
  refine ae0 X0 hx (hb hby cl2) rfl ?_
  refine ae0 X0 hx (hb hby cm2) rfl ?_
  refine au0 X0 hx (pc' := 37) (hb hby cn2) (flt (by decide : ¬ ((22 : Int32) < (0 : Int32)))).2.1 ?_
  exact at1 X0 hx hlk hP hrt (hb hby bv9) (by decide) (by decide) ⟨rfl, N0, e0⟩
theorem co2 : decode jdk_65_method_133_code 0 = .ok (.iload_n 1, 1) := by decide +kernel
theorem cp2 : decode jdk_65_method_133_code 1 = .ok (.iload_n 2, 1) := by decide +kernel
theorem cq2 : decode jdk_65_method_133_code 2 = .ok (.invokestatic 343, 3) := by decide +kernel
theorem bt5 : parseMethodDescriptor "(II)V" = some ⟨[.int, .int], none⟩ := by decide +kernel
theorem cr2 : decode jdk_65_method_133_code 5 = .ok (.iload_n 2, 1) := by decide +kernel
theorem cs2 : decode jdk_65_method_133_code 6 = .ok (.iload_n 1, 1) := by decide +kernel
theorem ct2 : decode jdk_65_method_133_code 7 = .ok (.isub, 1) := by decide +kernel
theorem cu2 : decode jdk_65_method_133_code 8 = .ok (.istore_n 3, 1) := by decide +kernel
theorem cv2 : decode jdk_65_method_133_code 9 = .ok (.iload_n 3, 1) := by decide +kernel
theorem bw9 : decode jdk_65_method_133_code 10 = .ok (.newarray .byte, 2) := by decide +kernel
theorem bx9 : decode jdk_65_method_133_code 12 = .ok (.astore 4, 2) := by decide +kernel
theorem by9 : decode jdk_65_method_133_code 14 = .ok (.aload_n 0, 1) := by decide +kernel
theorem bz9 : decode jdk_65_method_133_code 15 = .ok (.iload_n 1, 1) := by decide +kernel
theorem ca0 : decode jdk_65_method_133_code 16 = .ok (.aload 4, 2) := by decide +kernel
theorem cb0 : decode jdk_65_method_133_code 18 = .ok (.iconst 0, 1) := by decide +kernel
theorem cc0 : decode jdk_65_method_133_code 19 = .ok (.aload_n 0, 1) := by decide +kernel
theorem cd0 : decode jdk_65_method_133_code 20 = .ok (.arraylength, 1) := by decide +kernel
theorem ce0 : decode jdk_65_method_133_code 21 = .ok (.iload_n 1, 1) := by decide +kernel
theorem cf0 : decode jdk_65_method_133_code 22 = .ok (.isub, 1) := by decide +kernel
theorem cg0 : decode jdk_65_method_133_code 23 = .ok (.iload_n 3, 1) := by decide +kernel
theorem ch0 : decode jdk_65_method_133_code 24 = .ok (.invokestatic 304, 3) := by decide +kernel
theorem ci0 : decode jdk_65_method_133_code 27 = .ok (.invokestatic 150, 3) := by decide +kernel
theorem cj0 : decode jdk_65_method_133_code 30 = .ok (.aload 4, 2) := by decide +kernel
theorem ck0 : decode jdk_65_method_133_code 32 = .ok (.areturn, 1) := by decide +kernel
theorem do2 (m : MethodId) (o0 : Addr) : entryFrame m #[(.ref o0), (.int (0 : Int32)), (.int (22 : Int32))] 5 = mkF m 0 #[.val (.ref o0), .val (.int (0 : Int32)), .val (.int (22 : Int32)), .unset, .unset] [] := by first | (simp [entryFrame, mkF, argsToLocals, Value.category]; done) | rfl
set_option maxRecDepth 65536 in
set_option maxHeartbeats 40000000 in
theorem ds7 (l : Launch) (Z : State) (a0 : Array Value) (hw : ∀ d ∈ tables_1, d.before a0 Z = true) (ws : List Jvm.Cond) (o0 : Addr)  (h0 : Heap) (n0 : Nat) (Z0 : n0 ≤ h0.size) (A_o0 : ao0 Z h0 o0 34) :
    as0 l Z (⟨z_s5, "copyOfRangeByte", "([BII)[B"⟩ : MethodName) jdk_65_method_133_code 5 (some (.array .byte)) ws ({ frames := 1, cells := 1, slots := 22, locals := 40 } : Room) #[(.ref o0), (.int (0 : Int32)), (.int (22 : Int32))] h0 (fun (v : Option Value) (h : Heap) (L : List Loc) => ∃ (b2 : Addr), v = some (.ref b2) ∧ Fr n0 L ∧ Keep h0 h [] ∧ h0.size ≤ b2 ∧ n0 ≤ b2 ∧ ao0 Z h b2 22) := by
  refine aq0 (plainFor_of_name az0) ?_
  intro p e s m below meth c s₁ P hx hby hml hrt hlk hown hnm hZ X0 e0 hP
  have N0 := Fr.nil n0
  have K0 := Keep.refl h0 []
  have hml' : c.maxLocals = 5 := hml
  refine ar0 (do2 m o0) ?_
  show ac0 p e below P (s₁.setTop (mkF m 0 #[.val (.ref o0), .val (.int (0 : Int32)), .val (.int (22 : Int32)), .unset, .unset] []))
  refine ae0 X0 hx (hb hby co2) rfl ?_
  refine ae0 X0 hx (hb hby cp2) rfl ?_
  refine af1 X0 hx hZ (y := (⟨z_s5, "checkLength", "(II)V"⟩ : MethodName)) hown (z_w hw 156 rfl) (z_w hw 157 rfl) (z_w hw 112 rfl) (z_w hw 158 rfl) (dr7 l Z a0 hw []   h0 n0 (Nat.le_trans Z0 K0.1) ) 0 e0 hml' (argsL := [(.int (0 : Int32)), (.int (22 : Int32))]) (rest := []) (lenOf bt5 rfl) (hb hby cq2) (fun r1 T1 L1 X1 hQ1 => ?_)
  obtain ⟨rfl, Nq1, eq1⟩ := hQ1
  have N1 := Fr.app N0 Nq1
  show ac0 p e below P (T1.setTop (mkF m 5 #[.val (.ref o0), .val (.int (0 : Int32)), .val (.int (22 : Int32)), .unset, .unset] []))
  refine ae0 X1 hx (hb hby cr2) rfl ?_
  refine ae0 X1 hx (hb hby cs2) rfl ?_
  refine ar2 X1 hx (hb hby ct2) (z := (22 : Int32)) rfl ?_
  refine aj2 X1 hx (hb hby cu2) (l' := #[.val (.ref o0), .val (.int (0 : Int32)), .val (.int (22 : Int32)), .val (.int (22 : Int32)), .unset]) rfl ?_
  refine ae0 X1 hx (hb hby cv2) rfl ?_
  refine cg4 X1 hx hZ (z_w hw 18 rfl) eq1 (j := (22 : Int32)) (n := 22) (by decide) 22 (by decide) (by decide) (by decide) (by decide) (hb hby bw9) (fun T2 h2 X2 e2 E2 B2 => ?_)
  obtain ⟨b2, g2⟩ : ∃ z, z = h0.size := ⟨_, rfl⟩
  rw [← g2] at B2 ⊢
  have ne3 := z_nb A_o0.lt g2
  have bb3 : n0 ≤ b2 := Nat.le_trans (Nat.le_trans Z0 K0.1) (Nat.le_of_eq g2.symm)
  have bd7 : h0.size ≤ b2 := Nat.le_trans K0.1 (Nat.le_of_eq g2.symm)
  have K2 := Keep.ext K0 E2
  have A2 : ao0 Z h2 b2 22 := B2
  refine ak7 X2 hx (hb hby bx9) rfl (l' := #[.val (.ref o0), .val (.int (0 : Int32)), .val (.int (22 : Int32)), .val (.int (22 : Int32)), .val (.ref b2)]) rfl ?_
  refine ab0 X2 hx (hb hby by9) rfl rfl ?_
  refine ae0 X2 hx (hb hby bz9) rfl ?_
  refine az2 X2 hx (hb hby ca0) rfl rfl ?_
  refine am0 X2 hx (hb hby cb0) (z := (0 : Int32)) rfl ?_
  refine ab0 X2 hx (hb hby cc0) rfl rfl ?_
  have G4 := (A_o0.ext E2)
  refine ao3 X2 hx hZ e2 G4 (j := (34 : Int32)) (by decide) (hb hby cd0) ?_
  refine ae0 X2 hx (hb hby ce0) rfl ?_
  refine ar2 X2 hx (hb hby cf0) (z := (34 : Int32)) rfl ?_
  refine ae0 X2 hx (hb hby cg0) rfl ?_
  refine af1 X2 hx hZ (y := (⟨"java/lang/Math", "min", "(II)I"⟩ : MethodName)) hown (z_w hw 114 rfl) (z_w hw 115 rfl) (z_w hw 106 rfl) (z_w hw 116 rfl) (af6 l Z a0 hw [] (34 : Int32) (22 : Int32)  h2 n0 (Nat.le_trans Z0 K2.1) ) 4 e2 hml' (argsL := [(.int (34 : Int32)), (.int (22 : Int32))]) (rest := [(.int (0 : Int32)), (.ref b2), (.int (0 : Int32)), (.ref o0)]) (lenOf ap2 rfl) (hb hby ch0) (fun r5 T5 L5 X5 hQ5 => ?_)
  obtain ⟨rfl, Nq5, eq5⟩ := hQ5
  have N5 := Fr.app N1 Nq5
  show ac0 p e below P (T5.setTop (mkF m 27 #[.val (.ref o0), .val (.int (0 : Int32)), .val (.int (22 : Int32)), .val (.int (22 : Int32)), .val (.ref b2)] [(.int (as2 (34 : Int32) (22 : Int32))), (.int (0 : Int32)), (.ref b2), (.int (0 : Int32)), (.ref o0)]))
  rw [show (as2 (34 : Int32) (22 : Int32)) = (22 : Int32) from by decide]
  show ac0 p e below P (T5.setTop (mkF m 27 #[.val (.ref o0), .val (.int (0 : Int32)), .val (.int (22 : Int32)), .val (.int (22 : Int32)), .val (.ref b2)] [(.int (22 : Int32)), (.int (0 : Int32)), (.ref b2), (.int (0 : Int32)), (.ref o0)]))
  refine az8 X5 hx hZ hown (z_w hw 117 rfl) (z_w hw 93 rfl) (z_w hw 91 rfl) (z_w hw 92 rfl) eq5 G4 A2 (sp := 0) (dp := 0) (n := 22) (by decide) (by decide) (by decide) (by decide) (by decide) N5 bb3 (g := (mkF m 27 #[.val (.ref o0), .val (.int (0 : Int32)), .val (.int (22 : Int32)), .val (.int (22 : Int32)), .val (.ref b2)] [(.int (22 : Int32)), (.int (0 : Int32)), (.ref b2), (.int (0 : Int32)), (.ref o0)])) rfl (by rw [hml']; rfl) rfl (hb hby ci0) (by decide) 0 (by show 2 * 0 + _ ≤ _; exact Nat.le_of_eq rfl) (by decide) (fun T6 h6 L6 X6 e6 N6 Kq6 B6 => ?_)
  have K6 := Keep.trans K2 Kq6 (allS (Or.inr bd7) all0)
  show ac0 p e below P (T6.setTop (mkF m 30 #[.val (.ref o0), .val (.int (0 : Int32)), .val (.int (22 : Int32)), .val (.int (22 : Int32)), .val (.ref b2)] []))
  refine az2 X6 hx (hb hby cj0) rfl rfl ?_
  have hfin : ((fun (v : Option Value) (h : Heap) (L : List Loc) => ∃ (b2 : Addr), v = some (.ref b2) ∧ Fr n0 L ∧ Keep h0 h [] ∧ h0.size ≤ b2 ∧ n0 ≤ b2 ∧ ao0 Z h b2 22)) (some (.ref b2)) h6 _ := ⟨b2, rfl, N6, K6, bd7, bb3, B6⟩
  refine as1 X6 hx hlk hP rfl rfl hrt (hb hby ck0) (by decide) (by decide) ?_
  rw [e6]; exact hfin
theorem cw2 : decode jdk_65_method_132_code 0 = .ok (.iload_n 1, 1) := by decide +kernel
theorem cx2 : decode jdk_65_method_132_code 1 = .ok (.ifCond .ne 9, 3) := by decide +kernel
theorem cy2 : decode jdk_65_method_132_code 4 = .ok (.iload_n 2, 1) := by decide +kernel
theorem cz2 : decode jdk_65_method_132_code 5 = .ok (.aload_n 0, 1) := by decide +kernel
theorem ca3 : decode jdk_65_method_132_code 6 = .ok (.arraylength, 1) := by decide +kernel
theorem cb3 : decode jdk_65_method_132_code 7 = .ok (.if_icmp .eq 10, 3) := by decide +kernel
theorem cl0 : decode jdk_65_method_132_code 10 = .ok (.aload_n 0, 1) := by decide +kernel
theorem cm0 : decode jdk_65_method_132_code 11 = .ok (.iload_n 1, 1) := by decide +kernel
theorem cn0 : decode jdk_65_method_132_code 12 = .ok (.iload_n 2, 1) := by decide +kernel
theorem co0 : decode jdk_65_method_132_code 13 = .ok (.invokestatic 339, 3) := by decide +kernel
theorem ai7 : parseMethodDescriptor "([BII)[B" = some ⟨[(.array .byte), .int, .int], some (.array .byte)⟩ := by decide +kernel
theorem cp0 : decode jdk_65_method_132_code 16 = .ok (.areturn, 1) := by decide +kernel
theorem dp2 (m : MethodId) (o0 : Addr) : entryFrame m #[(.ref o0), (.int (0 : Int32)), (.int (22 : Int32))] 3 = mkF m 0 #[.val (.ref o0), .val (.int (0 : Int32)), .val (.int (22 : Int32))] [] := by first | (simp [entryFrame, mkF, argsToLocals, Value.category]; done) | rfl
set_option maxRecDepth 65536 in
set_option maxHeartbeats 40000000 in
theorem dt7 (l : Launch) (Z : State) (a0 : Array Value) (hw : ∀ d ∈ tables_1, d.before a0 Z = true) (ws : List Jvm.Cond) (o0 : Addr)  (h0 : Heap) (n0 : Nat) (Z0 : n0 ≤ h0.size) (A_o0 : ao0 Z h0 o0 34) :
    as0 l Z (⟨z_s5, "copyOfRange", "([BII)[B"⟩ : MethodName) jdk_65_method_132_code 3 (some (.array .byte)) ws ({ frames := 2, cells := 1, slots := 22, locals := 56 } : Room) #[(.ref o0), (.int (0 : Int32)), (.int (22 : Int32))] h0 (fun (v : Option Value) (h : Heap) (L : List Loc) => ∃ (b2_1 : Addr), v = some (.ref b2_1) ∧ Fr n0 L ∧ Keep h0 h [] ∧ h0.size ≤ b2_1 ∧ n0 ≤ b2_1 ∧ ao0 Z h b2_1 22) := by
  refine aq0 (plainFor_of_name az0) ?_
  intro p e s m below meth c s₁ P hx hby hml hrt hlk hown hnm hZ X0 e0 hP
  have N0 := Fr.nil n0
  have K0 := Keep.refl h0 []
  have hml' : c.maxLocals = 3 := hml
  refine ar0 (dp2 m o0) ?_
  show ac0 p e below P (s₁.setTop (mkF m 0 #[.val (.ref o0), .val (.int (0 : Int32)), .val (.int (22 : Int32))] []))
  refine ae0 X0 hx (hb hby cw2) rfl ?_
  refine aa3 X0 hx (hb hby cx2) ((if0 _ _).trans (teq (by decide : (0 : Int32) = (0 : Int32))).2) ?_
  refine ae0 X0 hx (hb hby cy2) rfl ?_
  refine ab0 X0 hx (hb hby cz2) rfl rfl ?_
  refine ao3 X0 hx hZ e0 A_o0 (j := (34 : Int32)) (by decide) (hb hby ca3) ?_
  refine av0 X0 hx (hb hby cb3) (feq (by decide : ¬ ((22 : Int32) = (34 : Int32)))).1 ?_
  refine ab0 X0 hx (hb hby cl0) rfl rfl ?_
  refine ae0 X0 hx (hb hby cm0) rfl ?_
  refine ae0 X0 hx (hb hby cn0) rfl ?_
  refine af1 X0 hx hZ (y := (⟨z_s5, "copyOfRangeByte", "([BII)[B"⟩ : MethodName)) hown (z_w hw 153 rfl) (z_w hw 154 rfl) (z_w hw 112 rfl) (z_w hw 155 rfl) (ds7 l Z a0 hw [] o0  h0 n0 (Nat.le_trans Z0 K0.1) A_o0) 0 e0 hml' (argsL := [(.ref o0), (.int (0 : Int32)), (.int (22 : Int32))]) (rest := []) (lenOf ai7 rfl) (hb hby co0) (fun r1 T1 L1 X1 hQ1 => ?_)
  obtain ⟨b2_1, rfl, Nq1, Kq1, bi1, bq7, f0_1⟩ := hQ1
  have N1 := Fr.app N0 Nq1
  have ne2 := z_nc A_o0.lt bi1
  have cm1 := Nat.le_trans K0.1 bi1
  have K1 := Keep.trans K0 Kq1 all0
  show ac0 p e below P (T1.setTop (mkF m 16 #[.val (.ref o0), .val (.int (0 : Int32)), .val (.int (22 : Int32))] [(.ref b2_1)]))
  have hfin : ((fun (v : Option Value) (h : Heap) (L : List Loc) => ∃ (b2_1 : Addr), v = some (.ref b2_1) ∧ Fr n0 L ∧ Keep h0 h [] ∧ h0.size ≤ b2_1 ∧ n0 ≤ b2_1 ∧ ao0 Z h b2_1 22)) (some (.ref b2_1)) T1.heap _ := ⟨b2_1, rfl, N1, K1, cm1, bq7, f0_1⟩
  refine as1 X1 hx hlk hP rfl rfl hrt (hb hby cp0) (by decide) (by decide) ?_
  exact hfin
theorem cc3 : decode jdk_42_method_150_code 0 = .ok (.aload_n 0, 1) := by decide +kernel
theorem cd3 : decode jdk_42_method_150_code 1 = .ok (.invokespecial 1, 3) := by decide +kernel
theorem ce3 : decode jdk_42_method_150_code 4 = .ok (.aload_n 1, 1) := by decide +kernel
theorem cf3 : decode jdk_42_method_150_code 5 = .ok (.invokevirtual 552, 3) := by decide +kernel
theorem br7 : parseMethodDescriptor "()[B" = some ⟨[], some (.array .byte)⟩ := by decide +kernel
theorem cg3 : decode jdk_42_method_150_code 8 = .ok (.astore_n 3, 1) := by decide +kernel
theorem ch3 : decode jdk_42_method_150_code 9 = .ok (.aload_n 1, 1) := by decide +kernel
theorem cq0 : decode jdk_42_method_150_code 10 = .ok (.invokevirtual 549, 3) := by decide +kernel
theorem cr0 : decode jdk_42_method_150_code 13 = .ok (.istore 4, 2) := by decide +kernel
theorem cs0 : decode jdk_42_method_150_code 15 = .ok (.aload_n 1, 1) := by decide +kernel
theorem ct0 : decode jdk_42_method_150_code 16 = .ok (.invokevirtual 1047, 3) := by decide +kernel
theorem bu5 : parseMethodDescriptor "()Z" = some ⟨[], some .boolean⟩ := by decide +kernel
theorem cu0 : decode jdk_42_method_150_code 19 = .ok (.ifCond .eq 22, 3) := by decide +kernel
theorem cv0 : decode jdk_42_method_150_code 22 = .ok (.aload_n 0, 1) := by decide +kernel
theorem cw0 : decode jdk_42_method_150_code 23 = .ok (.iconst 0, 1) := by decide +kernel
theorem cx0 : decode jdk_42_method_150_code 24 = .ok (.putfield 15, 3) := by decide +kernel
theorem cy0 : decode jdk_42_method_150_code 27 = .ok (.aload_n 0, 1) := by decide +kernel
theorem cz0 : decode jdk_42_method_150_code 28 = .ok (.aload_n 3, 1) := by decide +kernel
theorem ca1 : decode jdk_42_method_150_code 29 = .ok (.iconst 0, 1) := by decide +kernel
theorem cb1 : decode jdk_42_method_150_code 30 = .ok (.iload 4, 2) := by decide +kernel
theorem cc1 : decode jdk_42_method_150_code 32 = .ok (.invokestatic 54, 3) := by decide +kernel
theorem cd1 : decode jdk_42_method_150_code 35 = .ok (.putfield 9, 3) := by decide +kernel
theorem ce1 : decode jdk_42_method_150_code 38 = .ok (.goto 59, 3) := by decide +kernel
theorem cf1 : decode jdk_42_method_150_code 97 = .ok (.return_, 1) := by decide +kernel
theorem dq2 (m : MethodId) (o0 : Addr) (o1 : Addr) : entryFrame m #[(.ref o0), (.ref o1), .null] 5 = mkF m 0 #[.val (.ref o0), .val (.ref o1), .val .null, .unset, .unset] [] := by first | (simp [entryFrame, mkF, argsToLocals, Value.category]; done) | rfl
set_option maxRecDepth 65536 in
set_option maxHeartbeats 40000000 in
theorem du7 (l : Launch) (Z : State) (a0 : Array Value) (hw : ∀ d ∈ tables_1, d.before a0 Z = true) (ws : List Jvm.Cond) (o0 : Addr) (o1 : Addr) (ah0 : Addr) (aa0 : Int32) (h0 : Heap) (n0 : Nat) (Z0 : n0 ≤ h0.size) (E_o0 : Exa Z h0 o0 z_s1) (E_o1 : Exa Z h0 o1 z_s2) (al0 : Fld Z h0 o0 z_s1 "value" "[B" .null) (ai0 : Fld Z h0 o0 z_s1 "coder" "B" (.int (0 : Int32))) (ac1 : Fld Z h0 o1 z_s0 "value" "[B" (.ref ah0)) (aa1 : Fld Z h0 o1 z_s0 "coder" "B" (.int (0 : Int32))) (ah7 : Fld Z h0 o1 z_s0 "count" "I" (.int (22 : Int32))) (af0 : Sta Z h0 z_s1 z_s8 "Z" (.int aa0)) (at0 : ao0 Z h0 ah0 34) (ab1 : n0 ≤ o0) (az1 : o0 ≠ o1) (ad1 : o0 ≠ ah0) (hnz : ¬ (aa0 = (0 : Int32))) :
    as0 l Z (⟨z_s1, "<init>", "(Ljava/lang/AbstractStringBuilder;Ljava/lang/Void;)V"⟩ : MethodName) jdk_42_method_150_code 5 none ws ({ frames := 3, cells := 1, slots := 22, locals := 71 } : Room) #[(.ref o0), (.ref o1), .null] h0 (fun (v : Option Value) (h : Heap) (L : List Loc) => v = none ∧ Fr n0 L ∧ Keep h0 h [o0]) := by
  refine aq0 (plainFor_of_name au1) ?_
  intro p e s m below meth c s₁ P hx hby hml hrt hlk hown hnm hZ X0 e0 hP
  have N0 := Fr.nil n0
  have K0 := Keep.refl h0 [o0]
  have hml' : c.maxLocals = 5 := hml
  refine ar0 (dq2 m o0 o1) ?_
  show ac0 p e below P (s₁.setTop (mkF m 0 #[.val (.ref o0), .val (.ref o1), .val .null, .unset, .unset] []))
  refine ab0 X0 hx (hb hby cc3) rfl rfl ?_
  obtain ⟨T1, X1, e1, st1⟩ := initO X0 hx hZ hown (z_w hw 131 rfl) (z_w hw 13 rfl) (z_w hw 14 rfl) e0 (g := (mkF m 1 #[.val (.ref o0), .val (.ref o1), .val .null, .unset, .unset] [(.ref o0)])) rfl (by rw [hml']; rfl) rfl (hb hby cd3) (by decide) (W := 0) (by show 2 * 0 + _ ≤ _; exact Nat.le_of_eq rfl) (by decide)
  refine ae1 (fun _ => st1 _) ?_
  show ac0 p e below P (T1.setTop (mkF m 4 #[.val (.ref o0), .val (.ref o1), .val .null, .unset, .unset] []))
  refine ab0 X1 hx (hb hby ce3) rfl rfl ?_
  refine ag2 X1 hx hZ (y := (⟨z_s0, "getValue", "()[B"⟩ : MethodName)) (z := (⟨z_s0, "getValue", "()[B"⟩ : MethodName)) hown (z_w hw 132 rfl) (z_w hw 133 rfl) (notFace_of_selects (args := #[]) (mvT hZ (z_w hw 135 rfl))) (z_w hw 135 rfl) (z_w hw 134 rfl) (z_w hw 36 rfl) (z_w hw 136 rfl) E_o1 (ch5 l Z a0 hw [] o1 ah0 h0 n0 (Nat.le_trans Z0 K0.1) ac1) 0 e1 hml' (argsL := []) (rest := []) (lenOf br7 rfl) (hb hby cf3) (fun r2 T2 L2 X2 hQ2 => ?_)
  obtain ⟨rfl, Nq2, eq2⟩ := hQ2
  have N2 := Fr.app N0 Nq2
  show ac0 p e below P (T2.setTop (mkF m 8 #[.val (.ref o0), .val (.ref o1), .val .null, .unset, .unset] [(.ref ah0)]))
  refine av2 X2 hx (hb hby cg3) rfl (l' := #[.val (.ref o0), .val (.ref o1), .val .null, .val (.ref ah0), .unset]) rfl ?_
  refine ab0 X2 hx (hb hby ch3) rfl rfl ?_
  refine ag2 X2 hx hZ (y := (⟨z_s0, "length", "()I"⟩ : MethodName)) (z := (⟨z_s2, "length", "()I"⟩ : MethodName)) hown (z_w hw 137 rfl) (z_w hw 138 rfl) (cg5 (args := #[]) (z := (⟨z_s0, "getValue", "()[B"⟩ : MethodName)) rfl (mvT hZ (z_w hw 134 rfl)) (notFace_of_selects (args := #[]) (mvT hZ (z_w hw 135 rfl)))) (z_w hw 140 rfl) (z_w hw 141 rfl) (z_w hw 28 rfl) (z_w hw 142 rfl) E_o1 (dq7 l Z a0 hw [] o1  h0 n0 (Nat.le_trans Z0 K0.1) E_o1 ah7) 0 eq2 hml' (argsL := []) (rest := []) (lenOf az4 rfl) (hb hby cq0) (fun r3 T3 L3 X3 hQ3 => ?_)
  obtain ⟨rfl, Nq3, eq3⟩ := hQ3
  have N3 := Fr.app N2 Nq3
  show ac0 p e below P (T3.setTop (mkF m 13 #[.val (.ref o0), .val (.ref o1), .val .null, .val (.ref ah0), .unset] [(.int (22 : Int32))]))
  refine ai1 X3 hx (hb hby cr0) (l' := #[.val (.ref o0), .val (.ref o1), .val .null, .val (.ref ah0), .val (.int (22 : Int32))]) rfl ?_
  refine ab0 X3 hx (hb hby cs0) rfl rfl ?_
  refine ag2 X3 hx hZ (y := (⟨z_s0, "isLatin1", "()Z"⟩ : MethodName)) (z := (⟨z_s0, "isLatin1", "()Z"⟩ : MethodName)) hown (z_w hw 145 rfl) (z_w hw 146 rfl) (notFace_of_selects (args := #[]) (mvT hZ (z_w hw 148 rfl))) (z_w hw 148 rfl) (z_w hw 147 rfl) (z_w hw 36 rfl) (z_w hw 149 rfl) E_o1 (ct4 l Z a0 hw [] o1 aa0 h0 n0 (Nat.le_trans Z0 K0.1) aa1 af0 hnz) 0 eq3 hml' (argsL := []) (rest := []) (lenOf bu5 rfl) (hb hby ct0) (fun r4 T4 L4 X4 hQ4 => ?_)
  obtain ⟨rfl, Nq4, eq4⟩ := hQ4
  have N4 := Fr.app N3 Nq4
  show ac0 p e below P (T4.setTop (mkF m 19 #[.val (.ref o0), .val (.ref o1), .val .null, .val (.ref ah0), .val (.int (22 : Int32))] [(.int (1 : Int32))]))
  refine aa3 X4 hx (hb hby cu0) ((if0 _ _).trans (feq (by decide : ¬ ((1 : Int32) = (0 : Int32)))).1) ?_
  refine ab0 X4 hx (hb hby cv0) rfl rfl ?_
  refine am0 X4 hx (hb hby cw0) (z := (0 : Int32)) rfl ?_
  obtain ⟨T5, h5, X5, e5, W5, st5⟩ := putFN X4 hx hZ hown (z_w hw 66 rfl) Via.refl eq4 ai0 E_o0 (Or.inr ⟨(z_w hw 20 rfl), rfl, hnm⟩) (z_w hw 17 rfl) (ty := .byte) (v' := (.int (nar .byte (0 : Int32)))) (by decide) rfl (fits_nar_byte _) (g := (mkF m 24 #[.val (.ref o0), .val (.ref o1), .val .null, .val (.ref ah0), .val (.int (22 : Int32))] [(.int (0 : Int32)), (.ref o0)])) rfl rfl (hb hby cx0)
  have N5 := Fr.snoc X5 N4 ab1
  have K5 := Keep.wr K0 W5 (Or.inl (List.mem_of_getElem? (i := 0) rfl))
  have F5 := ai0.same W5
  refine ae1 (fun _ => st5 _) ?_
  show ac0 p e below P (T5.setTop (mkF m 27 #[.val (.ref o0), .val (.ref o1), .val .null, .val (.ref ah0), .val (.int (22 : Int32))] []))
  refine ab0 X5 hx (hb hby cy0) rfl rfl ?_
  refine ab0 X5 hx (hb hby cz0) rfl rfl ?_
  refine am0 X5 hx (hb hby ca1) (z := (0 : Int32)) rfl ?_
  refine ak0 X5 hx (hb hby cb1) rfl ?_
  have G7 := (at0.other W5 ad1.symm)
  refine af1 X5 hx hZ (y := (⟨z_s5, "copyOfRange", "([BII)[B"⟩ : MethodName)) hown (z_w hw 150 rfl) (z_w hw 151 rfl) (z_w hw 112 rfl) (z_w hw 152 rfl) (dt7 l Z a0 hw [] ah0  h5 n0 (Nat.le_trans Z0 K5.1) G7) 1 e5 hml' (argsL := [(.ref ah0), (.int (0 : Int32)), (.int (22 : Int32))]) (rest := [(.ref o0)]) (lenOf ai7 rfl) (hb hby cc1) (fun r6 T6 L6 X6 hQ6 => ?_)
  obtain ⟨b2_1_6, rfl, Nq6, Kq6, ae5, cb5, f0_6⟩ := hQ6
  have N6 := Fr.app N5 Nq6
  have G8 := (E_o0.wr W5)
  have ne9 := z_nc G8.lt ae5
  have G10 := (E_o1.wr W5)
  have ne11 := z_nc G10.lt ae5
  have ne12 := z_nc G7.lt ae5
  have cm5 := Nat.le_trans K5.1 ae5
  have K6 := Keep.trans K5 Kq6 all0
  show ac0 p e below P (T6.setTop (mkF m 35 #[.val (.ref o0), .val (.ref o1), .val .null, .val (.ref ah0), .val (.int (22 : Int32))] [(.ref b2_1_6), (.ref o0)]))
  have G13 := ((al0.other W5 (Or.inr (slot_ne (Or.inr (z_w hw 19 rfl)) (Or.inr (z_w hw 20 rfl)) (by decide) (t := (.array .byte)) (t' := .byte) (by decide) (by decide)))).keep Kq6 nin0)
  have G14 := (G8.keep Kq6)
  refine aj7 X6 hx hZ hown (host := "") (Or.inl (z_w hw 59 rfl)) Via.refl rfl G13 G14 (Or.inr ⟨(z_w hw 19 rfl), rfl, hnm⟩) (z_w hw 17 rfl) (ty := (.array .byte)) (by decide) (hb hby cd1) (fun T15 h15 X15 e15 W15 => ?_)
  have N15 := Fr.snoc X15 N6 ab1
  have K15 := Keep.wr K6 W15 (Or.inl (List.mem_of_getElem? (i := 0) rfl))
  have F15 := G13.same W15
  refine am1 X15 hx (pc' := 97) (hb hby ce1) ?_
  have hfin : ((fun (v : Option Value) (h : Heap) (L : List Loc) => v = none ∧ Fr n0 L ∧ Keep h0 h [o0])) none h15 _ := ⟨rfl, N15, K15⟩
  refine at1 X15 hx hlk hP hrt (hb hby cf1) (by decide) (by decide) ?_
  rw [e15]; exact hfin
theorem ci3 : decode jdk_42_method_53_code 0 = .ok (.aload_n 0, 1) := by decide +kernel
theorem cj3 : decode jdk_42_method_53_code 1 = .ok (.aload_n 1, 1) := by decide +kernel
theorem ck3 : decode jdk_42_method_53_code 2 = .ok (.aconst_null, 1) := by decide +kernel
theorem cl3 : decode jdk_42_method_53_code 3 = .ok (.invokespecial 489, 3) := by decide +kernel
theorem ay2 : parseMethodDescriptor "(Ljava/lang/AbstractStringBuilder;Ljava/lang/Void;)V" = some ⟨[(.object z_s0), (.object "java/lang/Void")], none⟩ := by decide +kernel
theorem cm3 : decode jdk_42_method_53_code 6 = .ok (.return_, 1) := by decide +kernel
theorem dr2 (m : MethodId) (o0 : Addr) (o1 : Addr) : entryFrame m #[(.ref o0), (.ref o1)] 2 = mkF m 0 #[.val (.ref o0), .val (.ref o1)] [] := by first | (simp [entryFrame, mkF, argsToLocals, Value.category]; done) | rfl
set_option maxRecDepth 65536 in
set_option maxHeartbeats 40000000 in
theorem dv7 (l : Launch) (Z : State) (a0 : Array Value) (hw : ∀ d ∈ tables_1, d.before a0 Z = true) (ws : List Jvm.Cond) (o0 : Addr) (o1 : Addr) (ah0 : Addr) (aa0 : Int32) (h0 : Heap) (n0 : Nat) (Z0 : n0 ≤ h0.size) (E_o0 : Exa Z h0 o0 z_s1) (E_o1 : Exa Z h0 o1 z_s2) (al0 : Fld Z h0 o0 z_s1 "value" "[B" .null) (ai0 : Fld Z h0 o0 z_s1 "coder" "B" (.int (0 : Int32))) (ac1 : Fld Z h0 o1 z_s0 "value" "[B" (.ref ah0)) (aa1 : Fld Z h0 o1 z_s0 "coder" "B" (.int (0 : Int32))) (ah7 : Fld Z h0 o1 z_s0 "count" "I" (.int (22 : Int32))) (af0 : Sta Z h0 z_s1 z_s8 "Z" (.int aa0)) (at0 : ao0 Z h0 ah0 34) (ab1 : n0 ≤ o0) (az1 : o0 ≠ o1) (ad1 : o0 ≠ ah0) (hnz : ¬ (aa0 = (0 : Int32))) :
    as0 l Z (⟨z_s1, "<init>", "(Ljava/lang/StringBuilder;)V"⟩ : MethodName) jdk_42_method_53_code 2 none ws ({ frames := 4, cells := 1, slots := 22, locals := 87 } : Room) #[(.ref o0), (.ref o1)] h0 (fun (v : Option Value) (h : Heap) (L : List Loc) => v = none ∧ Fr n0 L ∧ Keep h0 h [o0]) := by
  refine aq0 (plainFor_of_name au1) ?_
  intro p e s m below meth c s₁ P hx hby hml hrt hlk hown hnm hZ X0 e0 hP
  have N0 := Fr.nil n0
  have K0 := Keep.refl h0 [o0]
  have hml' : c.maxLocals = 2 := hml
  refine ar0 (dr2 m o0 o1) ?_
  show ac0 p e below P (s₁.setTop (mkF m 0 #[.val (.ref o0), .val (.ref o1)] []))
  refine ab0 X0 hx (hb hby ci3) rfl rfl ?_
  refine ab0 X0 hx (hb hby cj3) rfl rfl ?_
  refine ai8 X0 hx (hb hby ck3) ?_
  refine ai9 X0 hx hZ (y := (⟨z_s1, "<init>", "(Ljava/lang/AbstractStringBuilder;Ljava/lang/Void;)V"⟩ : MethodName)) hown (z_w hw 128 rfl) (z_w hw 129 rfl) (z_w hw 16 rfl) (z_w hw 130 rfl) (du7 l Z a0 hw [] o0 o1 ah0 aa0 h0 n0 (Nat.le_trans Z0 K0.1) E_o0 E_o1 al0 ai0 ac1 aa1 ah7 af0 at0 ab1 az1 ad1 hnz) 0 e0 hml' (a := o0) (argsL := [(.ref o1), .null]) (rest := []) (lenOf ay2 rfl) (hb hby cl3) (fun r1 T1 L1 X1 hQ1 => ?_)
  obtain ⟨rfl, Nq1, Kq1⟩ := hQ1
  have N1 := Fr.app N0 Nq1
  have K1 := Keep.trans K0 Kq1 (allS (Or.inl (List.mem_of_getElem? (i := 0) rfl)) all0)
  show ac0 p e below P (T1.setTop (mkF m 6 #[.val (.ref o0), .val (.ref o1)] []))
  have hfin : ((fun (v : Option Value) (h : Heap) (L : List Loc) => v = none ∧ Fr n0 L ∧ Keep h0 h [o0])) none T1.heap _ := ⟨rfl, N1, K1⟩
  refine at1 X1 hx hlk hP hrt (hb hby cm3) (by decide) (by decide) ?_
  exact hfin
theorem cn3 : decode jdk_67_method_42_code 0 = .ok (.new 18, 3) := by decide +kernel
theorem co3 : decode jdk_67_method_42_code 3 = .ok (.dup, 1) := by decide +kernel
theorem cp3 : decode jdk_67_method_42_code 4 = .ok (.aload_n 0, 1) := by decide +kernel
theorem cq3 : decode jdk_67_method_42_code 5 = .ok (.invokespecial 137, 3) := by decide +kernel
theorem ad5 : parseMethodDescriptor "(Ljava/lang/StringBuilder;)V" = some ⟨[(.object z_s2)], none⟩ := by decide +kernel
theorem cr3 : decode jdk_67_method_42_code 8 = .ok (.areturn, 1) := by decide +kernel
theorem ds2 (m : MethodId) (o0 : Addr) : entryFrame m #[(.ref o0)] 1 = mkF m 0 #[.val (.ref o0)] [] := by first | (simp [entryFrame, mkF, argsToLocals, Value.category]; done) | rfl
set_option maxRecDepth 65536 in
set_option maxHeartbeats 40000000 in
theorem dw7 (l : Launch) (Z : State) (a0 : Array Value) (hw : ∀ d ∈ tables_1, d.before a0 Z = true) (ws : List Jvm.Cond) (o0 : Addr) (ad0 : Addr) (aa0 : Int32) (h0 : Heap) (n0 : Nat) (Z0 : n0 ≤ h0.size) (E_o0 : Exa Z h0 o0 z_s2) (al0 : Fld Z h0 o0 z_s0 "value" "[B" (.ref ad0)) (ai0 : Fld Z h0 o0 z_s0 "coder" "B" (.int (0 : Int32))) (ay0 : Fld Z h0 o0 z_s0 "count" "I" (.int (22 : Int32))) (af0 : Sta Z h0 z_s1 z_s8 "Z" (.int aa0)) (aj0 : ao0 Z h0 ad0 34) (hnz : ¬ (aa0 = (0 : Int32))) :
    as0 l Z (⟨z_s2, "toString", "()Ljava/lang/String;"⟩ : MethodName) jdk_67_method_42_code 1 (some (.object z_s1)) ws ({ frames := 5, cells := 2, slots := 28, locals := 101 } : Room) #[(.ref o0)] h0 (fun (v : Option Value) (h : Heap) (L : List Loc) => ∃ (b1 : Addr), v = some (.ref b1) ∧ Fr n0 L ∧ Keep h0 h [] ∧ h0.size ≤ b1 ∧ n0 ≤ b1) := by
  refine aq0 (plainFor_of_name ar1) ?_
  intro p e s m below meth c s₁ P hx hby hml hrt hlk hown hnm hZ X0 e0 hP
  have N0 := Fr.nil n0
  have K0 := Keep.refl h0 []
  have hml' : c.maxLocals = 1 := hml
  refine ar0 (ds2 m o0) ?_
  show ac0 p e below P (s₁.setTop (mkF m 0 #[.val (.ref o0)] []))
  obtain ⟨T1, h1, X1, e1, E1, A1, D1, -, st1⟩ := newO X0 hx hZ hown (z_w hw 123 rfl) (z_w hw 17 rfl) (z_w hw 16 rfl) e0 (g := (mkF m 0 #[.val (.ref o0)] [])) rfl (hb hby cn3) (by decide) (by decide)
  obtain ⟨b1, g1⟩ : ∃ z, z = h0.size := ⟨_, rfl⟩
  rw [← g1] at A1 D1 st1
  have ne2 := z_nb E_o0.lt g1
  have ne3 := z_nb aj0.lt g1
  have ao1 : n0 ≤ b1 := Nat.le_trans (Nat.le_trans Z0 K0.1) (Nat.le_of_eq g1.symm)
  have ay1 : h0.size ≤ b1 := Nat.le_trans K0.1 (Nat.le_of_eq g1.symm)
  have K1 := Keep.ext K0 E1
  have at4 : Fld Z h1 b1 z_s1 "value" "[B" .null := D1 (Or.inr (z_w hw 19 rfl)) (ty := (.array .byte)) (by decide)
  have au4 : Fld Z h1 b1 z_s1 "coder" "B" (.int (0 : Int32)) := D1 (Or.inr (z_w hw 20 rfl)) (ty := .byte) (by decide)
  refine ae1 (fun _ => st1 _) ?_
  show ac0 p e below P (T1.setTop (mkF m 3 #[.val (.ref o0)] [(.ref b1)]))
  refine an6 X1 hx (hb hby co3) rfl ?_
  refine ab0 X1 hx (hb hby cp3) rfl rfl ?_
  have G5 := (E_o0.ext E1)
  have G6 := (al0.ext E1)
  have G7 := (ai0.ext E1)
  have G8 := (ay0.ext E1)
  have G9 := (af0.ext E1)
  have G10 := (aj0.ext E1)
  refine ai9 X1 hx hZ (y := (⟨z_s1, "<init>", "(Ljava/lang/StringBuilder;)V"⟩ : MethodName)) hown (z_w hw 124 rfl) (z_w hw 125 rfl) (z_w hw 16 rfl) (z_w hw 127 rfl) (dv7 l Z a0 hw [] b1 o0 ad0 aa0 h1 n0 (Nat.le_trans Z0 K1.1) A1 G5 at4 au4 G6 G7 G8 G9 G10 ao1 ne2.symm ne3.symm hnz) 1 e1 hml' (a := b1) (argsL := [(.ref o0)]) (rest := [(.ref b1)]) (lenOf ad5 rfl) (hb hby cq3) (fun r4 T4 L4 X4 hQ4 => ?_)
  obtain ⟨rfl, Nq4, Kq4⟩ := hQ4
  have N4 := Fr.app N0 Nq4
  have K4 := Keep.trans K1 Kq4 (allS (Or.inr ay1) all0)
  show ac0 p e below P (T4.setTop (mkF m 8 #[.val (.ref o0)] [(.ref b1)]))
  have hfin : ((fun (v : Option Value) (h : Heap) (L : List Loc) => ∃ (b1 : Addr), v = some (.ref b1) ∧ Fr n0 L ∧ Keep h0 h [] ∧ h0.size ≤ b1 ∧ n0 ≤ b1)) (some (.ref b1)) T4.heap _ := ⟨b1, rfl, N4, K4, ay1, ao1⟩
  refine as1 X4 hx hlk hP rfl rfl hrt (hb hby cr3) (by decide) (by decide) ?_
  exact hfin
theorem dt2 (m : MethodId) (o0 : Addr) : entryFrame m #[(.ref o0)] 1 = mkF m 0 #[.val (.ref o0)] [] := by first | (simp [entryFrame, mkF, argsToLocals, Value.category]; done) | rfl
set_option maxRecDepth 65536 in
set_option maxHeartbeats 40000000 in
theorem dx7 (l : Launch) (Z : State) (a0 : Array Value) (hw : ∀ d ∈ tables_1, d.before a0 Z = true) (ws : List Jvm.Cond) (o0 : Addr)  (h0 : Heap) (n0 : Nat) (Z0 : n0 ≤ h0.size) (ay0 : Fld Z h0 o0 z_s0 "count" "I" (.int (23 : Int32))) :
    as0 l Z (⟨z_s0, "length", "()I"⟩ : MethodName) jdk_68_method_6_code 1 (some .int) ws ({ frames := 0, cells := 0, slots := 0, locals := 0 } : Room) #[(.ref o0)] h0 (fun (v : Option Value) (h : Heap) (L : List Loc) => v = some (.int (23 : Int32)) ∧ Fr n0 L ∧ h = h0) := by
  refine aq0 (plainFor_of_name ap0) ?_
  intro p e s m below meth c s₁ P hx hby hml hrt hlk hown hnm hZ X0 e0 hP
  have N0 := Fr.nil n0
  have K0 := Keep.refl h0 []
  have hml' : c.maxLocals = 1 := hml
  refine ar0 (dt2 m o0) ?_
  show ac0 p e below P (s₁.setTop (mkF m 0 #[.val (.ref o0)] []))
  refine ab0 X0 hx (hb hby cf2) rfl rfl ?_
  refine ak1 X0 hx hZ hown (host := "") (Or.inl (z_w hw 67 rfl)) Via.refl e0 ay0 (hb hby cg2) (fun T1 X1 e1 => ?_)
  exact aq4 X1 hx hlk hP hrt (hb hby ch2) (by decide) (by decide) ⟨rfl, N0, e1⟩
theorem du2 (m : MethodId) (o0 : Addr) : entryFrame m #[(.ref o0)] 1 = mkF m 0 #[.val (.ref o0)] [] := by first | (simp [entryFrame, mkF, argsToLocals, Value.category]; done) | rfl
set_option maxRecDepth 65536 in
set_option maxHeartbeats 40000000 in
theorem dy7 (l : Launch) (Z : State) (a0 : Array Value) (hw : ∀ d ∈ tables_1, d.before a0 Z = true) (ws : List Jvm.Cond) (o0 : Addr)  (h0 : Heap) (n0 : Nat) (Z0 : n0 ≤ h0.size) (E_o0 : Exa Z h0 o0 z_s2) (ay0 : Fld Z h0 o0 z_s0 "count" "I" (.int (23 : Int32))) :
    as0 l Z (⟨z_s2, "length", "()I"⟩ : MethodName) jdk_67_method_93_code 1 (some .int) ws ({ frames := 1, cells := 0, slots := 0, locals := 12 } : Room) #[(.ref o0)] h0 (fun (v : Option Value) (h : Heap) (L : List Loc) => v = some (.int (23 : Int32)) ∧ Fr n0 L ∧ h = h0) := by
  refine aq0 (plainFor_of_name ar1) ?_
  intro p e s m below meth c s₁ P hx hby hml hrt hlk hown hnm hZ X0 e0 hP
  have N0 := Fr.nil n0
  have K0 := Keep.refl h0 []
  have hml' : c.maxLocals = 1 := hml
  refine ar0 (du2 m o0) ?_
  show ac0 p e below P (s₁.setTop (mkF m 0 #[.val (.ref o0)] []))
  refine ab0 X0 hx (hb hby ci2) rfl rfl ?_
  refine bp1 X0 hx hZ (y := (⟨z_s0, "length", "()I"⟩ : MethodName)) (z := (⟨z_s0, z_s6, "(I)V"⟩ : MethodName)) hown (z_w hw 143 rfl) (z_w hw 139 rfl) rfl (z_w hw 72 rfl) (z_w hw 51 rfl) (z_w hw 36 rfl) (z_w hw 144 rfl) E_o0 (dx7 l Z a0 hw [] o0  h0 n0 (Nat.le_trans Z0 K0.1) ay0) 0 e0 hml' (argsL := []) (rest := []) (lenOf az4 rfl) (hb hby cj2) (fun r1 T1 L1 X1 hQ1 => ?_)
  obtain ⟨rfl, Nq1, eq1⟩ := hQ1
  have N1 := Fr.app N0 Nq1
  show ac0 p e below P (T1.setTop (mkF m 4 #[.val (.ref o0)] [(.int (23 : Int32))]))
  exact aq4 X1 hx hlk hP hrt (hb hby ck2) (by decide) (by decide) ⟨rfl, N1, eq1⟩
theorem dv2 (m : MethodId)  : entryFrame m #[(.int (0 : Int32)), (.int (23 : Int32))] 2 = mkF m 0 #[.val (.int (0 : Int32)), .val (.int (23 : Int32))] [] := by first | (simp [entryFrame, mkF, argsToLocals, Value.category]; done) | rfl
set_option maxRecDepth 65536 in
set_option maxHeartbeats 40000000 in
theorem dz7 (l : Launch) (Z : State) (a0 : Array Value) (hw : ∀ d ∈ tables_1, d.before a0 Z = true) (ws : List Jvm.Cond)   (h0 : Heap) (n0 : Nat) (Z0 : n0 ≤ h0.size)  :
    as0 l Z (⟨z_s5, "checkLength", "(II)V"⟩ : MethodName) jdk_65_method_131_code 2 none ws ({ frames := 0, cells := 0, slots := 0, locals := 0 } : Room) #[(.int (0 : Int32)), (.int (23 : Int32))] h0 (fun (v : Option Value) (h : Heap) (L : List Loc) => v = none ∧ Fr n0 L ∧ h = h0) := by
  refine aq0 (plainFor_of_name az0) ?_
  intro p e s m below meth c s₁ P hx hby hml hrt hlk hown hnm hZ X0 e0 hP
  have N0 := Fr.nil n0
  have K0 := Keep.refl h0 []
  have hml' : c.maxLocals = 2 := hml
  refine ar0 (dv2 m ) ?_
  show ac0 p e below P (s₁.setTop (mkF m 0 #[.val (.int (0 : Int32)), .val (.int (23 : Int32))] []))
  refine ae0 X0 hx (hb hby cl2) rfl ?_
  refine ae0 X0 hx (hb hby cm2) rfl ?_
  refine au0 X0 hx (pc' := 37) (hb hby cn2) (flt (by decide : ¬ ((23 : Int32) < (0 : Int32)))).2.1 ?_
  exact at1 X0 hx hlk hP hrt (hb hby bv9) (by decide) (by decide) ⟨rfl, N0, e0⟩
theorem dw2 (m : MethodId) (o0 : Addr) : entryFrame m #[(.ref o0), (.int (0 : Int32)), (.int (23 : Int32))] 5 = mkF m 0 #[.val (.ref o0), .val (.int (0 : Int32)), .val (.int (23 : Int32)), .unset, .unset] [] := by first | (simp [entryFrame, mkF, argsToLocals, Value.category]; done) | rfl
set_option maxRecDepth 65536 in
set_option maxHeartbeats 40000000 in
theorem d8 (l : Launch) (Z : State) (a0 : Array Value) (hw : ∀ d ∈ tables_1, d.before a0 Z = true) (ws : List Jvm.Cond) (o0 : Addr)  (h0 : Heap) (n0 : Nat) (Z0 : n0 ≤ h0.size) (A_o0 : ao0 Z h0 o0 34) :
    as0 l Z (⟨z_s5, "copyOfRangeByte", "([BII)[B"⟩ : MethodName) jdk_65_method_133_code 5 (some (.array .byte)) ws ({ frames := 1, cells := 1, slots := 23, locals := 40 } : Room) #[(.ref o0), (.int (0 : Int32)), (.int (23 : Int32))] h0 (fun (v : Option Value) (h : Heap) (L : List Loc) => ∃ (b2 : Addr), v = some (.ref b2) ∧ Fr n0 L ∧ Keep h0 h [] ∧ h0.size ≤ b2 ∧ n0 ≤ b2 ∧ ao0 Z h b2 23) := by
  refine aq0 (plainFor_of_name az0) ?_
  intro p e s m below meth c s₁ P hx hby hml hrt hlk hown hnm hZ X0 e0 hP
  have N0 := Fr.nil n0
  have K0 := Keep.refl h0 []
  have hml' : c.maxLocals = 5 := hml
  refine ar0 (dw2 m o0) ?_
  show ac0 p e below P (s₁.setTop (mkF m 0 #[.val (.ref o0), .val (.int (0 : Int32)), .val (.int (23 : Int32)), .unset, .unset] []))
  refine ae0 X0 hx (hb hby co2) rfl ?_
  refine ae0 X0 hx (hb hby cp2) rfl ?_
  refine af1 X0 hx hZ (y := (⟨z_s5, "checkLength", "(II)V"⟩ : MethodName)) hown (z_w hw 156 rfl) (z_w hw 157 rfl) (z_w hw 112 rfl) (z_w hw 158 rfl) (dz7 l Z a0 hw []   h0 n0 (Nat.le_trans Z0 K0.1) ) 0 e0 hml' (argsL := [(.int (0 : Int32)), (.int (23 : Int32))]) (rest := []) (lenOf bt5 rfl) (hb hby cq2) (fun r1 T1 L1 X1 hQ1 => ?_)
  obtain ⟨rfl, Nq1, eq1⟩ := hQ1
  have N1 := Fr.app N0 Nq1
  show ac0 p e below P (T1.setTop (mkF m 5 #[.val (.ref o0), .val (.int (0 : Int32)), .val (.int (23 : Int32)), .unset, .unset] []))
  refine ae0 X1 hx (hb hby cr2) rfl ?_
  refine ae0 X1 hx (hb hby cs2) rfl ?_
  refine ar2 X1 hx (hb hby ct2) (z := (23 : Int32)) rfl ?_
  refine aj2 X1 hx (hb hby cu2) (l' := #[.val (.ref o0), .val (.int (0 : Int32)), .val (.int (23 : Int32)), .val (.int (23 : Int32)), .unset]) rfl ?_
  refine ae0 X1 hx (hb hby cv2) rfl ?_
  refine cg4 X1 hx hZ (z_w hw 18 rfl) eq1 (j := (23 : Int32)) (n := 23) (by decide) 23 (by decide) (by decide) (by decide) (by decide) (hb hby bw9) (fun T2 h2 X2 e2 E2 B2 => ?_)
  obtain ⟨b2, g2⟩ : ∃ z, z = h0.size := ⟨_, rfl⟩
  rw [← g2] at B2 ⊢
  have ne3 := z_nb A_o0.lt g2
  have bb3 : n0 ≤ b2 := Nat.le_trans (Nat.le_trans Z0 K0.1) (Nat.le_of_eq g2.symm)
  have bd7 : h0.size ≤ b2 := Nat.le_trans K0.1 (Nat.le_of_eq g2.symm)
  have K2 := Keep.ext K0 E2
  have A2 : ao0 Z h2 b2 23 := B2
  refine ak7 X2 hx (hb hby bx9) rfl (l' := #[.val (.ref o0), .val (.int (0 : Int32)), .val (.int (23 : Int32)), .val (.int (23 : Int32)), .val (.ref b2)]) rfl ?_
  refine ab0 X2 hx (hb hby by9) rfl rfl ?_
  refine ae0 X2 hx (hb hby bz9) rfl ?_
  refine az2 X2 hx (hb hby ca0) rfl rfl ?_
  refine am0 X2 hx (hb hby cb0) (z := (0 : Int32)) rfl ?_
  refine ab0 X2 hx (hb hby cc0) rfl rfl ?_
  have G4 := (A_o0.ext E2)
  refine ao3 X2 hx hZ e2 G4 (j := (34 : Int32)) (by decide) (hb hby cd0) ?_
  refine ae0 X2 hx (hb hby ce0) rfl ?_
  refine ar2 X2 hx (hb hby cf0) (z := (34 : Int32)) rfl ?_
  refine ae0 X2 hx (hb hby cg0) rfl ?_
  refine af1 X2 hx hZ (y := (⟨"java/lang/Math", "min", "(II)I"⟩ : MethodName)) hown (z_w hw 114 rfl) (z_w hw 115 rfl) (z_w hw 106 rfl) (z_w hw 116 rfl) (af6 l Z a0 hw [] (34 : Int32) (23 : Int32)  h2 n0 (Nat.le_trans Z0 K2.1) ) 4 e2 hml' (argsL := [(.int (34 : Int32)), (.int (23 : Int32))]) (rest := [(.int (0 : Int32)), (.ref b2), (.int (0 : Int32)), (.ref o0)]) (lenOf ap2 rfl) (hb hby ch0) (fun r5 T5 L5 X5 hQ5 => ?_)
  obtain ⟨rfl, Nq5, eq5⟩ := hQ5
  have N5 := Fr.app N1 Nq5
  show ac0 p e below P (T5.setTop (mkF m 27 #[.val (.ref o0), .val (.int (0 : Int32)), .val (.int (23 : Int32)), .val (.int (23 : Int32)), .val (.ref b2)] [(.int (as2 (34 : Int32) (23 : Int32))), (.int (0 : Int32)), (.ref b2), (.int (0 : Int32)), (.ref o0)]))
  rw [show (as2 (34 : Int32) (23 : Int32)) = (23 : Int32) from by decide]
  show ac0 p e below P (T5.setTop (mkF m 27 #[.val (.ref o0), .val (.int (0 : Int32)), .val (.int (23 : Int32)), .val (.int (23 : Int32)), .val (.ref b2)] [(.int (23 : Int32)), (.int (0 : Int32)), (.ref b2), (.int (0 : Int32)), (.ref o0)]))
  refine az8 X5 hx hZ hown (z_w hw 117 rfl) (z_w hw 93 rfl) (z_w hw 91 rfl) (z_w hw 92 rfl) eq5 G4 A2 (sp := 0) (dp := 0) (n := 23) (by decide) (by decide) (by decide) (by decide) (by decide) N5 bb3 (g := (mkF m 27 #[.val (.ref o0), .val (.int (0 : Int32)), .val (.int (23 : Int32)), .val (.int (23 : Int32)), .val (.ref b2)] [(.int (23 : Int32)), (.int (0 : Int32)), (.ref b2), (.int (0 : Int32)), (.ref o0)])) rfl (by rw [hml']; rfl) rfl (hb hby ci0) (by decide) 0 (by show 2 * 0 + _ ≤ _; exact Nat.le_of_eq rfl) (by decide) (fun T6 h6 L6 X6 e6 N6 Kq6 B6 => ?_)
  have K6 := Keep.trans K2 Kq6 (allS (Or.inr bd7) all0)
  show ac0 p e below P (T6.setTop (mkF m 30 #[.val (.ref o0), .val (.int (0 : Int32)), .val (.int (23 : Int32)), .val (.int (23 : Int32)), .val (.ref b2)] []))
  refine az2 X6 hx (hb hby cj0) rfl rfl ?_
  have hfin : ((fun (v : Option Value) (h : Heap) (L : List Loc) => ∃ (b2 : Addr), v = some (.ref b2) ∧ Fr n0 L ∧ Keep h0 h [] ∧ h0.size ≤ b2 ∧ n0 ≤ b2 ∧ ao0 Z h b2 23)) (some (.ref b2)) h6 _ := ⟨b2, rfl, N6, K6, bd7, bb3, B6⟩
  refine as1 X6 hx hlk hP rfl rfl hrt (hb hby ck0) (by decide) (by decide) ?_
  rw [e6]; exact hfin
theorem dx2 (m : MethodId) (o0 : Addr) : entryFrame m #[(.ref o0), (.int (0 : Int32)), (.int (23 : Int32))] 3 = mkF m 0 #[.val (.ref o0), .val (.int (0 : Int32)), .val (.int (23 : Int32))] [] := by first | (simp [entryFrame, mkF, argsToLocals, Value.category]; done) | rfl
set_option maxRecDepth 65536 in
set_option maxHeartbeats 40000000 in
theorem da8 (l : Launch) (Z : State) (a0 : Array Value) (hw : ∀ d ∈ tables_1, d.before a0 Z = true) (ws : List Jvm.Cond) (o0 : Addr)  (h0 : Heap) (n0 : Nat) (Z0 : n0 ≤ h0.size) (A_o0 : ao0 Z h0 o0 34) :
    as0 l Z (⟨z_s5, "copyOfRange", "([BII)[B"⟩ : MethodName) jdk_65_method_132_code 3 (some (.array .byte)) ws ({ frames := 2, cells := 1, slots := 23, locals := 56 } : Room) #[(.ref o0), (.int (0 : Int32)), (.int (23 : Int32))] h0 (fun (v : Option Value) (h : Heap) (L : List Loc) => ∃ (b2_1 : Addr), v = some (.ref b2_1) ∧ Fr n0 L ∧ Keep h0 h [] ∧ h0.size ≤ b2_1 ∧ n0 ≤ b2_1 ∧ ao0 Z h b2_1 23) := by
  refine aq0 (plainFor_of_name az0) ?_
  intro p e s m below meth c s₁ P hx hby hml hrt hlk hown hnm hZ X0 e0 hP
  have N0 := Fr.nil n0
  have K0 := Keep.refl h0 []
  have hml' : c.maxLocals = 3 := hml
  refine ar0 (dx2 m o0) ?_
  show ac0 p e below P (s₁.setTop (mkF m 0 #[.val (.ref o0), .val (.int (0 : Int32)), .val (.int (23 : Int32))] []))
  refine ae0 X0 hx (hb hby cw2) rfl ?_
  refine aa3 X0 hx (hb hby cx2) ((if0 _ _).trans (teq (by decide : (0 : Int32) = (0 : Int32))).2) ?_
  refine ae0 X0 hx (hb hby cy2) rfl ?_
  refine ab0 X0 hx (hb hby cz2) rfl rfl ?_
  refine ao3 X0 hx hZ e0 A_o0 (j := (34 : Int32)) (by decide) (hb hby ca3) ?_
  refine av0 X0 hx (hb hby cb3) (feq (by decide : ¬ ((23 : Int32) = (34 : Int32)))).1 ?_
  refine ab0 X0 hx (hb hby cl0) rfl rfl ?_
  refine ae0 X0 hx (hb hby cm0) rfl ?_
  refine ae0 X0 hx (hb hby cn0) rfl ?_
  refine af1 X0 hx hZ (y := (⟨z_s5, "copyOfRangeByte", "([BII)[B"⟩ : MethodName)) hown (z_w hw 153 rfl) (z_w hw 154 rfl) (z_w hw 112 rfl) (z_w hw 155 rfl) (d8 l Z a0 hw [] o0  h0 n0 (Nat.le_trans Z0 K0.1) A_o0) 0 e0 hml' (argsL := [(.ref o0), (.int (0 : Int32)), (.int (23 : Int32))]) (rest := []) (lenOf ai7 rfl) (hb hby co0) (fun r1 T1 L1 X1 hQ1 => ?_)
  obtain ⟨b2_1, rfl, Nq1, Kq1, bi1, bq7, f0_1⟩ := hQ1
  have N1 := Fr.app N0 Nq1
  have ne2 := z_nc A_o0.lt bi1
  have cm1 := Nat.le_trans K0.1 bi1
  have K1 := Keep.trans K0 Kq1 all0
  show ac0 p e below P (T1.setTop (mkF m 16 #[.val (.ref o0), .val (.int (0 : Int32)), .val (.int (23 : Int32))] [(.ref b2_1)]))
  have hfin : ((fun (v : Option Value) (h : Heap) (L : List Loc) => ∃ (b2_1 : Addr), v = some (.ref b2_1) ∧ Fr n0 L ∧ Keep h0 h [] ∧ h0.size ≤ b2_1 ∧ n0 ≤ b2_1 ∧ ao0 Z h b2_1 23)) (some (.ref b2_1)) T1.heap _ := ⟨b2_1, rfl, N1, K1, cm1, bq7, f0_1⟩
  refine as1 X1 hx hlk hP rfl rfl hrt (hb hby cp0) (by decide) (by decide) ?_
  exact hfin
theorem dy2 (m : MethodId) (o0 : Addr) (o1 : Addr) : entryFrame m #[(.ref o0), (.ref o1), .null] 5 = mkF m 0 #[.val (.ref o0), .val (.ref o1), .val .null, .unset, .unset] [] := by first | (simp [entryFrame, mkF, argsToLocals, Value.category]; done) | rfl
set_option maxRecDepth 65536 in
set_option maxHeartbeats 40000000 in
theorem db8 (l : Launch) (Z : State) (a0 : Array Value) (hw : ∀ d ∈ tables_1, d.before a0 Z = true) (ws : List Jvm.Cond) (o0 : Addr) (o1 : Addr) (ah0 : Addr) (aa0 : Int32) (h0 : Heap) (n0 : Nat) (Z0 : n0 ≤ h0.size) (E_o0 : Exa Z h0 o0 z_s1) (E_o1 : Exa Z h0 o1 z_s2) (al0 : Fld Z h0 o0 z_s1 "value" "[B" .null) (ai0 : Fld Z h0 o0 z_s1 "coder" "B" (.int (0 : Int32))) (ac1 : Fld Z h0 o1 z_s0 "value" "[B" (.ref ah0)) (aa1 : Fld Z h0 o1 z_s0 "coder" "B" (.int (0 : Int32))) (ah7 : Fld Z h0 o1 z_s0 "count" "I" (.int (23 : Int32))) (af0 : Sta Z h0 z_s1 z_s8 "Z" (.int aa0)) (at0 : ao0 Z h0 ah0 34) (ab1 : n0 ≤ o0) (az1 : o0 ≠ o1) (ad1 : o0 ≠ ah0) (hnz : ¬ (aa0 = (0 : Int32))) :
    as0 l Z (⟨z_s1, "<init>", "(Ljava/lang/AbstractStringBuilder;Ljava/lang/Void;)V"⟩ : MethodName) jdk_42_method_150_code 5 none ws ({ frames := 3, cells := 1, slots := 23, locals := 71 } : Room) #[(.ref o0), (.ref o1), .null] h0 (fun (v : Option Value) (h : Heap) (L : List Loc) => v = none ∧ Fr n0 L ∧ Keep h0 h [o0]) := by
  refine aq0 (plainFor_of_name au1) ?_
  intro p e s m below meth c s₁ P hx hby hml hrt hlk hown hnm hZ X0 e0 hP
  have N0 := Fr.nil n0
  have K0 := Keep.refl h0 [o0]
  have hml' : c.maxLocals = 5 := hml
  refine ar0 (dy2 m o0 o1) ?_
  show ac0 p e below P (s₁.setTop (mkF m 0 #[.val (.ref o0), .val (.ref o1), .val .null, .unset, .unset] []))
  refine ab0 X0 hx (hb hby cc3) rfl rfl ?_
  obtain ⟨T1, X1, e1, st1⟩ := initO X0 hx hZ hown (z_w hw 131 rfl) (z_w hw 13 rfl) (z_w hw 14 rfl) e0 (g := (mkF m 1 #[.val (.ref o0), .val (.ref o1), .val .null, .unset, .unset] [(.ref o0)])) rfl (by rw [hml']; rfl) rfl (hb hby cd3) (by decide) (W := 0) (by show 2 * 0 + _ ≤ _; exact Nat.le_of_eq rfl) (by decide)
  refine ae1 (fun _ => st1 _) ?_
  show ac0 p e below P (T1.setTop (mkF m 4 #[.val (.ref o0), .val (.ref o1), .val .null, .unset, .unset] []))
  refine ab0 X1 hx (hb hby ce3) rfl rfl ?_
  refine ag2 X1 hx hZ (y := (⟨z_s0, "getValue", "()[B"⟩ : MethodName)) (z := (⟨z_s0, "getValue", "()[B"⟩ : MethodName)) hown (z_w hw 132 rfl) (z_w hw 133 rfl) (notFace_of_selects (args := #[]) (mvT hZ (z_w hw 135 rfl))) (z_w hw 135 rfl) (z_w hw 134 rfl) (z_w hw 36 rfl) (z_w hw 136 rfl) E_o1 (ch5 l Z a0 hw [] o1 ah0 h0 n0 (Nat.le_trans Z0 K0.1) ac1) 0 e1 hml' (argsL := []) (rest := []) (lenOf br7 rfl) (hb hby cf3) (fun r2 T2 L2 X2 hQ2 => ?_)
  obtain ⟨rfl, Nq2, eq2⟩ := hQ2
  have N2 := Fr.app N0 Nq2
  show ac0 p e below P (T2.setTop (mkF m 8 #[.val (.ref o0), .val (.ref o1), .val .null, .unset, .unset] [(.ref ah0)]))
  refine av2 X2 hx (hb hby cg3) rfl (l' := #[.val (.ref o0), .val (.ref o1), .val .null, .val (.ref ah0), .unset]) rfl ?_
  refine ab0 X2 hx (hb hby ch3) rfl rfl ?_
  refine ag2 X2 hx hZ (y := (⟨z_s0, "length", "()I"⟩ : MethodName)) (z := (⟨z_s2, "length", "()I"⟩ : MethodName)) hown (z_w hw 137 rfl) (z_w hw 138 rfl) (cg5 (args := #[]) (z := (⟨z_s0, "getValue", "()[B"⟩ : MethodName)) rfl (mvT hZ (z_w hw 134 rfl)) (notFace_of_selects (args := #[]) (mvT hZ (z_w hw 135 rfl)))) (z_w hw 140 rfl) (z_w hw 141 rfl) (z_w hw 28 rfl) (z_w hw 142 rfl) E_o1 (dy7 l Z a0 hw [] o1  h0 n0 (Nat.le_trans Z0 K0.1) E_o1 ah7) 0 eq2 hml' (argsL := []) (rest := []) (lenOf az4 rfl) (hb hby cq0) (fun r3 T3 L3 X3 hQ3 => ?_)
  obtain ⟨rfl, Nq3, eq3⟩ := hQ3
  have N3 := Fr.app N2 Nq3
  show ac0 p e below P (T3.setTop (mkF m 13 #[.val (.ref o0), .val (.ref o1), .val .null, .val (.ref ah0), .unset] [(.int (23 : Int32))]))
  refine ai1 X3 hx (hb hby cr0) (l' := #[.val (.ref o0), .val (.ref o1), .val .null, .val (.ref ah0), .val (.int (23 : Int32))]) rfl ?_
  refine ab0 X3 hx (hb hby cs0) rfl rfl ?_
  refine ag2 X3 hx hZ (y := (⟨z_s0, "isLatin1", "()Z"⟩ : MethodName)) (z := (⟨z_s0, "isLatin1", "()Z"⟩ : MethodName)) hown (z_w hw 145 rfl) (z_w hw 146 rfl) (notFace_of_selects (args := #[]) (mvT hZ (z_w hw 148 rfl))) (z_w hw 148 rfl) (z_w hw 147 rfl) (z_w hw 36 rfl) (z_w hw 149 rfl) E_o1 (ct4 l Z a0 hw [] o1 aa0 h0 n0 (Nat.le_trans Z0 K0.1) aa1 af0 hnz) 0 eq3 hml' (argsL := []) (rest := []) (lenOf bu5 rfl) (hb hby ct0) (fun r4 T4 L4 X4 hQ4 => ?_)
  obtain ⟨rfl, Nq4, eq4⟩ := hQ4
  have N4 := Fr.app N3 Nq4
  show ac0 p e below P (T4.setTop (mkF m 19 #[.val (.ref o0), .val (.ref o1), .val .null, .val (.ref ah0), .val (.int (23 : Int32))] [(.int (1 : Int32))]))
  refine aa3 X4 hx (hb hby cu0) ((if0 _ _).trans (feq (by decide : ¬ ((1 : Int32) = (0 : Int32)))).1) ?_
  refine ab0 X4 hx (hb hby cv0) rfl rfl ?_
  refine am0 X4 hx (hb hby cw0) (z := (0 : Int32)) rfl ?_
  obtain ⟨T5, h5, X5, e5, W5, st5⟩ := putFN X4 hx hZ hown (z_w hw 66 rfl) Via.refl eq4 ai0 E_o0 (Or.inr ⟨(z_w hw 20 rfl), rfl, hnm⟩) (z_w hw 17 rfl) (ty := .byte) (v' := (.int (nar .byte (0 : Int32)))) (by decide) rfl (fits_nar_byte _) (g := (mkF m 24 #[.val (.ref o0), .val (.ref o1), .val .null, .val (.ref ah0), .val (.int (23 : Int32))] [(.int (0 : Int32)), (.ref o0)])) rfl rfl (hb hby cx0)
  have N5 := Fr.snoc X5 N4 ab1
  have K5 := Keep.wr K0 W5 (Or.inl (List.mem_of_getElem? (i := 0) rfl))
  have F5 := ai0.same W5
  refine ae1 (fun _ => st5 _) ?_
  show ac0 p e below P (T5.setTop (mkF m 27 #[.val (.ref o0), .val (.ref o1), .val .null, .val (.ref ah0), .val (.int (23 : Int32))] []))
  refine ab0 X5 hx (hb hby cy0) rfl rfl ?_
  refine ab0 X5 hx (hb hby cz0) rfl rfl ?_
  refine am0 X5 hx (hb hby ca1) (z := (0 : Int32)) rfl ?_
  refine ak0 X5 hx (hb hby cb1) rfl ?_
  have G7 := (at0.other W5 ad1.symm)
  refine af1 X5 hx hZ (y := (⟨z_s5, "copyOfRange", "([BII)[B"⟩ : MethodName)) hown (z_w hw 150 rfl) (z_w hw 151 rfl) (z_w hw 112 rfl) (z_w hw 152 rfl) (da8 l Z a0 hw [] ah0  h5 n0 (Nat.le_trans Z0 K5.1) G7) 1 e5 hml' (argsL := [(.ref ah0), (.int (0 : Int32)), (.int (23 : Int32))]) (rest := [(.ref o0)]) (lenOf ai7 rfl) (hb hby cc1) (fun r6 T6 L6 X6 hQ6 => ?_)
  obtain ⟨b2_1_6, rfl, Nq6, Kq6, ae5, cb5, f0_6⟩ := hQ6
  have N6 := Fr.app N5 Nq6
  have G8 := (E_o0.wr W5)
  have ne9 := z_nc G8.lt ae5
  have G10 := (E_o1.wr W5)
  have ne11 := z_nc G10.lt ae5
  have ne12 := z_nc G7.lt ae5
  have cm5 := Nat.le_trans K5.1 ae5
  have K6 := Keep.trans K5 Kq6 all0
  show ac0 p e below P (T6.setTop (mkF m 35 #[.val (.ref o0), .val (.ref o1), .val .null, .val (.ref ah0), .val (.int (23 : Int32))] [(.ref b2_1_6), (.ref o0)]))
  have G13 := ((al0.other W5 (Or.inr (slot_ne (Or.inr (z_w hw 19 rfl)) (Or.inr (z_w hw 20 rfl)) (by decide) (t := (.array .byte)) (t' := .byte) (by decide) (by decide)))).keep Kq6 nin0)
  have G14 := (G8.keep Kq6)
  refine aj7 X6 hx hZ hown (host := "") (Or.inl (z_w hw 59 rfl)) Via.refl rfl G13 G14 (Or.inr ⟨(z_w hw 19 rfl), rfl, hnm⟩) (z_w hw 17 rfl) (ty := (.array .byte)) (by decide) (hb hby cd1) (fun T15 h15 X15 e15 W15 => ?_)
  have N15 := Fr.snoc X15 N6 ab1
  have K15 := Keep.wr K6 W15 (Or.inl (List.mem_of_getElem? (i := 0) rfl))
  have F15 := G13.same W15
  refine am1 X15 hx (pc' := 97) (hb hby ce1) ?_
  have hfin : ((fun (v : Option Value) (h : Heap) (L : List Loc) => v = none ∧ Fr n0 L ∧ Keep h0 h [o0])) none h15 _ := ⟨rfl, N15, K15⟩
  refine at1 X15 hx hlk hP hrt (hb hby cf1) (by decide) (by decide) ?_
  rw [e15]; exact hfin
theorem dz2 (m : MethodId) (o0 : Addr) (o1 : Addr) : entryFrame m #[(.ref o0), (.ref o1)] 2 = mkF m 0 #[.val (.ref o0), .val (.ref o1)] [] := by first | (simp [entryFrame, mkF, argsToLocals, Value.category]; done) | rfl
set_option maxRecDepth 65536 in
set_option maxHeartbeats 40000000 in
theorem dc8 (l : Launch) (Z : State) (a0 : Array Value) (hw : ∀ d ∈ tables_1, d.before a0 Z = true) (ws : List Jvm.Cond) (o0 : Addr) (o1 : Addr) (ah0 : Addr) (aa0 : Int32) (h0 : Heap) (n0 : Nat) (Z0 : n0 ≤ h0.size) (E_o0 : Exa Z h0 o0 z_s1) (E_o1 : Exa Z h0 o1 z_s2) (al0 : Fld Z h0 o0 z_s1 "value" "[B" .null) (ai0 : Fld Z h0 o0 z_s1 "coder" "B" (.int (0 : Int32))) (ac1 : Fld Z h0 o1 z_s0 "value" "[B" (.ref ah0)) (aa1 : Fld Z h0 o1 z_s0 "coder" "B" (.int (0 : Int32))) (ah7 : Fld Z h0 o1 z_s0 "count" "I" (.int (23 : Int32))) (af0 : Sta Z h0 z_s1 z_s8 "Z" (.int aa0)) (at0 : ao0 Z h0 ah0 34) (ab1 : n0 ≤ o0) (az1 : o0 ≠ o1) (ad1 : o0 ≠ ah0) (hnz : ¬ (aa0 = (0 : Int32))) :
    as0 l Z (⟨z_s1, "<init>", "(Ljava/lang/StringBuilder;)V"⟩ : MethodName) jdk_42_method_53_code 2 none ws ({ frames := 4, cells := 1, slots := 23, locals := 87 } : Room) #[(.ref o0), (.ref o1)] h0 (fun (v : Option Value) (h : Heap) (L : List Loc) => v = none ∧ Fr n0 L ∧ Keep h0 h [o0]) := by
  refine aq0 (plainFor_of_name au1) ?_
  intro p e s m below meth c s₁ P hx hby hml hrt hlk hown hnm hZ X0 e0 hP
  have N0 := Fr.nil n0
  have K0 := Keep.refl h0 [o0]
  have hml' : c.maxLocals = 2 := hml
  refine ar0 (dz2 m o0 o1) ?_
  show ac0 p e below P (s₁.setTop (mkF m 0 #[.val (.ref o0), .val (.ref o1)] []))
  refine ab0 X0 hx (hb hby ci3) rfl rfl ?_
  refine ab0 X0 hx (hb hby cj3) rfl rfl ?_
  refine ai8 X0 hx (hb hby ck3) ?_
  refine ai9 X0 hx hZ (y := (⟨z_s1, "<init>", "(Ljava/lang/AbstractStringBuilder;Ljava/lang/Void;)V"⟩ : MethodName)) hown (z_w hw 128 rfl) (z_w hw 129 rfl) (z_w hw 16 rfl) (z_w hw 130 rfl) (db8 l Z a0 hw [] o0 o1 ah0 aa0 h0 n0 (Nat.le_trans Z0 K0.1) E_o0 E_o1 al0 ai0 ac1 aa1 ah7 af0 at0 ab1 az1 ad1 hnz) 0 e0 hml' (a := o0) (argsL := [(.ref o1), .null]) (rest := []) (lenOf ay2 rfl) (hb hby cl3) (fun r1 T1 L1 X1 hQ1 => ?_)
  obtain ⟨rfl, Nq1, Kq1⟩ := hQ1
  have N1 := Fr.app N0 Nq1
  have K1 := Keep.trans K0 Kq1 (allS (Or.inl (List.mem_of_getElem? (i := 0) rfl)) all0)
  show ac0 p e below P (T1.setTop (mkF m 6 #[.val (.ref o0), .val (.ref o1)] []))
  have hfin : ((fun (v : Option Value) (h : Heap) (L : List Loc) => v = none ∧ Fr n0 L ∧ Keep h0 h [o0])) none T1.heap _ := ⟨rfl, N1, K1⟩
  refine at1 X1 hx hlk hP hrt (hb hby cm3) (by decide) (by decide) ?_
  exact hfin
theorem d3 (m : MethodId) (o0 : Addr) : entryFrame m #[(.ref o0)] 1 = mkF m 0 #[.val (.ref o0)] [] := by first | (simp [entryFrame, mkF, argsToLocals, Value.category]; done) | rfl
set_option maxRecDepth 65536 in
set_option maxHeartbeats 40000000 in
theorem dd8 (l : Launch) (Z : State) (a0 : Array Value) (hw : ∀ d ∈ tables_1, d.before a0 Z = true) (ws : List Jvm.Cond) (o0 : Addr) (ad0 : Addr) (aa0 : Int32) (h0 : Heap) (n0 : Nat) (Z0 : n0 ≤ h0.size) (E_o0 : Exa Z h0 o0 z_s2) (al0 : Fld Z h0 o0 z_s0 "value" "[B" (.ref ad0)) (ai0 : Fld Z h0 o0 z_s0 "coder" "B" (.int (0 : Int32))) (ay0 : Fld Z h0 o0 z_s0 "count" "I" (.int (23 : Int32))) (af0 : Sta Z h0 z_s1 z_s8 "Z" (.int aa0)) (aj0 : ao0 Z h0 ad0 34) (hnz : ¬ (aa0 = (0 : Int32))) :
    as0 l Z (⟨z_s2, "toString", "()Ljava/lang/String;"⟩ : MethodName) jdk_67_method_42_code 1 (some (.object z_s1)) ws ({ frames := 5, cells := 2, slots := 28, locals := 101 } : Room) #[(.ref o0)] h0 (fun (v : Option Value) (h : Heap) (L : List Loc) => ∃ (b1 : Addr), v = some (.ref b1) ∧ Fr n0 L ∧ Keep h0 h [] ∧ h0.size ≤ b1 ∧ n0 ≤ b1) := by
  refine aq0 (plainFor_of_name ar1) ?_
  intro p e s m below meth c s₁ P hx hby hml hrt hlk hown hnm hZ X0 e0 hP
  have N0 := Fr.nil n0
  have K0 := Keep.refl h0 []
  have hml' : c.maxLocals = 1 := hml
  refine ar0 (d3 m o0) ?_
  show ac0 p e below P (s₁.setTop (mkF m 0 #[.val (.ref o0)] []))
  obtain ⟨T1, h1, X1, e1, E1, A1, D1, -, st1⟩ := newO X0 hx hZ hown (z_w hw 123 rfl) (z_w hw 17 rfl) (z_w hw 16 rfl) e0 (g := (mkF m 0 #[.val (.ref o0)] [])) rfl (hb hby cn3) (by decide) (by decide)
  obtain ⟨b1, g1⟩ : ∃ z, z = h0.size := ⟨_, rfl⟩
  rw [← g1] at A1 D1 st1
  have ne2 := z_nb E_o0.lt g1
  have ne3 := z_nb aj0.lt g1
  have ao1 : n0 ≤ b1 := Nat.le_trans (Nat.le_trans Z0 K0.1) (Nat.le_of_eq g1.symm)
  have ay1 : h0.size ≤ b1 := Nat.le_trans K0.1 (Nat.le_of_eq g1.symm)
  have K1 := Keep.ext K0 E1
  have at4 : Fld Z h1 b1 z_s1 "value" "[B" .null := D1 (Or.inr (z_w hw 19 rfl)) (ty := (.array .byte)) (by decide)
  have au4 : Fld Z h1 b1 z_s1 "coder" "B" (.int (0 : Int32)) := D1 (Or.inr (z_w hw 20 rfl)) (ty := .byte) (by decide)
  refine ae1 (fun _ => st1 _) ?_
  show ac0 p e below P (T1.setTop (mkF m 3 #[.val (.ref o0)] [(.ref b1)]))
  refine an6 X1 hx (hb hby co3) rfl ?_
  refine ab0 X1 hx (hb hby cp3) rfl rfl ?_
  have G5 := (E_o0.ext E1)
  have G6 := (al0.ext E1)
  have G7 := (ai0.ext E1)
  have G8 := (ay0.ext E1)
  have G9 := (af0.ext E1)
  have G10 := (aj0.ext E1)
  refine ai9 X1 hx hZ (y := (⟨z_s1, "<init>", "(Ljava/lang/StringBuilder;)V"⟩ : MethodName)) hown (z_w hw 124 rfl) (z_w hw 125 rfl) (z_w hw 16 rfl) (z_w hw 127 rfl) (dc8 l Z a0 hw [] b1 o0 ad0 aa0 h1 n0 (Nat.le_trans Z0 K1.1) A1 G5 at4 au4 G6 G7 G8 G9 G10 ao1 ne2.symm ne3.symm hnz) 1 e1 hml' (a := b1) (argsL := [(.ref o0)]) (rest := [(.ref b1)]) (lenOf ad5 rfl) (hb hby cq3) (fun r4 T4 L4 X4 hQ4 => ?_)
  obtain ⟨rfl, Nq4, Kq4⟩ := hQ4
  have N4 := Fr.app N0 Nq4
  have K4 := Keep.trans K1 Kq4 (allS (Or.inr ay1) all0)
  show ac0 p e below P (T4.setTop (mkF m 8 #[.val (.ref o0)] [(.ref b1)]))
  have hfin : ((fun (v : Option Value) (h : Heap) (L : List Loc) => ∃ (b1 : Addr), v = some (.ref b1) ∧ Fr n0 L ∧ Keep h0 h [] ∧ h0.size ≤ b1 ∧ n0 ≤ b1)) (some (.ref b1)) T4.heap _ := ⟨b1, rfl, N4, K4, ay1, ao1⟩
  refine as1 X4 hx hlk hP rfl rfl hrt (hb hby cr3) (by decide) (by decide) ?_
  exact hfin
theorem da3 (m : MethodId) (o0 : Addr) : entryFrame m #[(.ref o0)] 1 = mkF m 0 #[.val (.ref o0)] [] := by first | (simp [entryFrame, mkF, argsToLocals, Value.category]; done) | rfl
set_option maxRecDepth 65536 in
set_option maxHeartbeats 40000000 in
theorem de8 (l : Launch) (Z : State) (a0 : Array Value) (hw : ∀ d ∈ tables_1, d.before a0 Z = true) (ws : List Jvm.Cond) (o0 : Addr)  (h0 : Heap) (n0 : Nat) (Z0 : n0 ≤ h0.size) (ay0 : Fld Z h0 o0 z_s0 "count" "I" (.int (24 : Int32))) :
    as0 l Z (⟨z_s0, "length", "()I"⟩ : MethodName) jdk_68_method_6_code 1 (some .int) ws ({ frames := 0, cells := 0, slots := 0, locals := 0 } : Room) #[(.ref o0)] h0 (fun (v : Option Value) (h : Heap) (L : List Loc) => v = some (.int (24 : Int32)) ∧ Fr n0 L ∧ h = h0) := by
  refine aq0 (plainFor_of_name ap0) ?_
  intro p e s m below meth c s₁ P hx hby hml hrt hlk hown hnm hZ X0 e0 hP
  have N0 := Fr.nil n0
  have K0 := Keep.refl h0 []
  have hml' : c.maxLocals = 1 := hml
  refine ar0 (da3 m o0) ?_
  show ac0 p e below P (s₁.setTop (mkF m 0 #[.val (.ref o0)] []))
  refine ab0 X0 hx (hb hby cf2) rfl rfl ?_
  refine ak1 X0 hx hZ hown (host := "") (Or.inl (z_w hw 67 rfl)) Via.refl e0 ay0 (hb hby cg2) (fun T1 X1 e1 => ?_)
  exact aq4 X1 hx hlk hP hrt (hb hby ch2) (by decide) (by decide) ⟨rfl, N0, e1⟩
theorem db3 (m : MethodId) (o0 : Addr) : entryFrame m #[(.ref o0)] 1 = mkF m 0 #[.val (.ref o0)] [] := by first | (simp [entryFrame, mkF, argsToLocals, Value.category]; done) | rfl
set_option maxRecDepth 65536 in
set_option maxHeartbeats 40000000 in
theorem df8 (l : Launch) (Z : State) (a0 : Array Value) (hw : ∀ d ∈ tables_1, d.before a0 Z = true) (ws : List Jvm.Cond) (o0 : Addr)  (h0 : Heap) (n0 : Nat) (Z0 : n0 ≤ h0.size) (E_o0 : Exa Z h0 o0 z_s2) (ay0 : Fld Z h0 o0 z_s0 "count" "I" (.int (24 : Int32))) :
    as0 l Z (⟨z_s2, "length", "()I"⟩ : MethodName) jdk_67_method_93_code 1 (some .int) ws ({ frames := 1, cells := 0, slots := 0, locals := 12 } : Room) #[(.ref o0)] h0 (fun (v : Option Value) (h : Heap) (L : List Loc) => v = some (.int (24 : Int32)) ∧ Fr n0 L ∧ h = h0) := by
  refine aq0 (plainFor_of_name ar1) ?_
  intro p e s m below meth c s₁ P hx hby hml hrt hlk hown hnm hZ X0 e0 hP
  have N0 := Fr.nil n0
  have K0 := Keep.refl h0 []
  have hml' : c.maxLocals = 1 := hml
  refine ar0 (db3 m o0) ?_
  show ac0 p e below P (s₁.setTop (mkF m 0 #[.val (.ref o0)] []))
  refine ab0 X0 hx (hb hby ci2) rfl rfl ?_
  refine bp1 X0 hx hZ (y := (⟨z_s0, "length", "()I"⟩ : MethodName)) (z := (⟨z_s0, z_s6, "(I)V"⟩ : MethodName)) hown (z_w hw 143 rfl) (z_w hw 139 rfl) rfl (z_w hw 72 rfl) (z_w hw 51 rfl) (z_w hw 36 rfl) (z_w hw 144 rfl) E_o0 (de8 l Z a0 hw [] o0  h0 n0 (Nat.le_trans Z0 K0.1) ay0) 0 e0 hml' (argsL := []) (rest := []) (lenOf az4 rfl) (hb hby cj2) (fun r1 T1 L1 X1 hQ1 => ?_)
  obtain ⟨rfl, Nq1, eq1⟩ := hQ1
  have N1 := Fr.app N0 Nq1
  show ac0 p e below P (T1.setTop (mkF m 4 #[.val (.ref o0)] [(.int (24 : Int32))]))
  exact aq4 X1 hx hlk hP hrt (hb hby ck2) (by decide) (by decide) ⟨rfl, N1, eq1⟩
theorem dc3 (m : MethodId)  : entryFrame m #[(.int (0 : Int32)), (.int (24 : Int32))] 2 = mkF m 0 #[.val (.int (0 : Int32)), .val (.int (24 : Int32))] [] := by first | (simp [entryFrame, mkF, argsToLocals, Value.category]; done) | rfl
set_option maxRecDepth 65536 in
set_option maxHeartbeats 40000000 in
theorem dg8 (l : Launch) (Z : State) (a0 : Array Value) (hw : ∀ d ∈ tables_1, d.before a0 Z = true) (ws : List Jvm.Cond)   (h0 : Heap) (n0 : Nat) (Z0 : n0 ≤ h0.size)  :
    as0 l Z (⟨z_s5, "checkLength", "(II)V"⟩ : MethodName) jdk_65_method_131_code 2 none ws ({ frames := 0, cells := 0, slots := 0, locals := 0 } : Room) #[(.int (0 : Int32)), (.int (24 : Int32))] h0 (fun (v : Option Value) (h : Heap) (L : List Loc) => v = none ∧ Fr n0 L ∧ h = h0) := by
  refine aq0 (plainFor_of_name az0) ?_
  intro p e s m below meth c s₁ P hx hby hml hrt hlk hown hnm hZ X0 e0 hP
  have N0 := Fr.nil n0
  have K0 := Keep.refl h0 []
  have hml' : c.maxLocals = 2 := hml
  refine ar0 (dc3 m ) ?_
  show ac0 p e below P (s₁.setTop (mkF m 0 #[.val (.int (0 : Int32)), .val (.int (24 : Int32))] []))
  refine ae0 X0 hx (hb hby cl2) rfl ?_
  refine ae0 X0 hx (hb hby cm2) rfl ?_
  refine au0 X0 hx (pc' := 37) (hb hby cn2) (flt (by decide : ¬ ((24 : Int32) < (0 : Int32)))).2.1 ?_
  exact at1 X0 hx hlk hP hrt (hb hby bv9) (by decide) (by decide) ⟨rfl, N0, e0⟩
theorem dd3 (m : MethodId) (o0 : Addr) : entryFrame m #[(.ref o0), (.int (0 : Int32)), (.int (24 : Int32))] 5 = mkF m 0 #[.val (.ref o0), .val (.int (0 : Int32)), .val (.int (24 : Int32)), .unset, .unset] [] := by first | (simp [entryFrame, mkF, argsToLocals, Value.category]; done) | rfl
set_option maxRecDepth 65536 in
set_option maxHeartbeats 40000000 in
theorem dh8 (l : Launch) (Z : State) (a0 : Array Value) (hw : ∀ d ∈ tables_1, d.before a0 Z = true) (ws : List Jvm.Cond) (o0 : Addr)  (h0 : Heap) (n0 : Nat) (Z0 : n0 ≤ h0.size) (A_o0 : ao0 Z h0 o0 34) :
    as0 l Z (⟨z_s5, "copyOfRangeByte", "([BII)[B"⟩ : MethodName) jdk_65_method_133_code 5 (some (.array .byte)) ws ({ frames := 1, cells := 1, slots := 24, locals := 40 } : Room) #[(.ref o0), (.int (0 : Int32)), (.int (24 : Int32))] h0 (fun (v : Option Value) (h : Heap) (L : List Loc) => ∃ (b2 : Addr), v = some (.ref b2) ∧ Fr n0 L ∧ Keep h0 h [] ∧ h0.size ≤ b2 ∧ n0 ≤ b2 ∧ ao0 Z h b2 24) := by
  refine aq0 (plainFor_of_name az0) ?_
  intro p e s m below meth c s₁ P hx hby hml hrt hlk hown hnm hZ X0 e0 hP
  have N0 := Fr.nil n0
  have K0 := Keep.refl h0 []
  have hml' : c.maxLocals = 5 := hml
  refine ar0 (dd3 m o0) ?_
  show ac0 p e below P (s₁.setTop (mkF m 0 #[.val (.ref o0), .val (.int (0 : Int32)), .val (.int (24 : Int32)), .unset, .unset] []))
  refine ae0 X0 hx (hb hby co2) rfl ?_
  refine ae0 X0 hx (hb hby cp2) rfl ?_
  refine af1 X0 hx hZ (y := (⟨z_s5, "checkLength", "(II)V"⟩ : MethodName)) hown (z_w hw 156 rfl) (z_w hw 157 rfl) (z_w hw 112 rfl) (z_w hw 158 rfl) (dg8 l Z a0 hw []   h0 n0 (Nat.le_trans Z0 K0.1) ) 0 e0 hml' (argsL := [(.int (0 : Int32)), (.int (24 : Int32))]) (rest := []) (lenOf bt5 rfl) (hb hby cq2) (fun r1 T1 L1 X1 hQ1 => ?_)
  obtain ⟨rfl, Nq1, eq1⟩ := hQ1
  have N1 := Fr.app N0 Nq1
  show ac0 p e below P (T1.setTop (mkF m 5 #[.val (.ref o0), .val (.int (0 : Int32)), .val (.int (24 : Int32)), .unset, .unset] []))
  refine ae0 X1 hx (hb hby cr2) rfl ?_
  refine ae0 X1 hx (hb hby cs2) rfl ?_
  refine ar2 X1 hx (hb hby ct2) (z := (24 : Int32)) rfl ?_
  refine aj2 X1 hx (hb hby cu2) (l' := #[.val (.ref o0), .val (.int (0 : Int32)), .val (.int (24 : Int32)), .val (.int (24 : Int32)), .unset]) rfl ?_
  refine ae0 X1 hx (hb hby cv2) rfl ?_
  refine cg4 X1 hx hZ (z_w hw 18 rfl) eq1 (j := (24 : Int32)) (n := 24) (by decide) 24 (by decide) (by decide) (by decide) (by decide) (hb hby bw9) (fun T2 h2 X2 e2 E2 B2 => ?_)
  obtain ⟨b2, g2⟩ : ∃ z, z = h0.size := ⟨_, rfl⟩
  rw [← g2] at B2 ⊢
  have ne3 := z_nb A_o0.lt g2
  have bb3 : n0 ≤ b2 := Nat.le_trans (Nat.le_trans Z0 K0.1) (Nat.le_of_eq g2.symm)
  have bd7 : h0.size ≤ b2 := Nat.le_trans K0.1 (Nat.le_of_eq g2.symm)
  have K2 := Keep.ext K0 E2
  have A2 : ao0 Z h2 b2 24 := B2
  refine ak7 X2 hx (hb hby bx9) rfl (l' := #[.val (.ref o0), .val (.int (0 : Int32)), .val (.int (24 : Int32)), .val (.int (24 : Int32)), .val (.ref b2)]) rfl ?_
  refine ab0 X2 hx (hb hby by9) rfl rfl ?_
  refine ae0 X2 hx (hb hby bz9) rfl ?_
  refine az2 X2 hx (hb hby ca0) rfl rfl ?_
  refine am0 X2 hx (hb hby cb0) (z := (0 : Int32)) rfl ?_
  refine ab0 X2 hx (hb hby cc0) rfl rfl ?_
  have G4 := (A_o0.ext E2)
  refine ao3 X2 hx hZ e2 G4 (j := (34 : Int32)) (by decide) (hb hby cd0) ?_
  refine ae0 X2 hx (hb hby ce0) rfl ?_
  refine ar2 X2 hx (hb hby cf0) (z := (34 : Int32)) rfl ?_
  refine ae0 X2 hx (hb hby cg0) rfl ?_
  refine af1 X2 hx hZ (y := (⟨"java/lang/Math", "min", "(II)I"⟩ : MethodName)) hown (z_w hw 114 rfl) (z_w hw 115 rfl) (z_w hw 106 rfl) (z_w hw 116 rfl) (af6 l Z a0 hw [] (34 : Int32) (24 : Int32)  h2 n0 (Nat.le_trans Z0 K2.1) ) 4 e2 hml' (argsL := [(.int (34 : Int32)), (.int (24 : Int32))]) (rest := [(.int (0 : Int32)), (.ref b2), (.int (0 : Int32)), (.ref o0)]) (lenOf ap2 rfl) (hb hby ch0) (fun r5 T5 L5 X5 hQ5 => ?_)
  obtain ⟨rfl, Nq5, eq5⟩ := hQ5
  have N5 := Fr.app N1 Nq5
  show ac0 p e below P (T5.setTop (mkF m 27 #[.val (.ref o0), .val (.int (0 : Int32)), .val (.int (24 : Int32)), .val (.int (24 : Int32)), .val (.ref b2)] [(.int (as2 (34 : Int32) (24 : Int32))), (.int (0 : Int32)), (.ref b2), (.int (0 : Int32)), (.ref o0)]))
  rw [show (as2 (34 : Int32) (24 : Int32)) = (24 : Int32) from by decide]
  show ac0 p e below P (T5.setTop (mkF m 27 #[.val (.ref o0), .val (.int (0 : Int32)), .val (.int (24 : Int32)), .val (.int (24 : Int32)), .val (.ref b2)] [(.int (24 : Int32)), (.int (0 : Int32)), (.ref b2), (.int (0 : Int32)), (.ref o0)]))
  refine az8 X5 hx hZ hown (z_w hw 117 rfl) (z_w hw 93 rfl) (z_w hw 91 rfl) (z_w hw 92 rfl) eq5 G4 A2 (sp := 0) (dp := 0) (n := 24) (by decide) (by decide) (by decide) (by decide) (by decide) N5 bb3 (g := (mkF m 27 #[.val (.ref o0), .val (.int (0 : Int32)), .val (.int (24 : Int32)), .val (.int (24 : Int32)), .val (.ref b2)] [(.int (24 : Int32)), (.int (0 : Int32)), (.ref b2), (.int (0 : Int32)), (.ref o0)])) rfl (by rw [hml']; rfl) rfl (hb hby ci0) (by decide) 0 (by show 2 * 0 + _ ≤ _; exact Nat.le_of_eq rfl) (by decide) (fun T6 h6 L6 X6 e6 N6 Kq6 B6 => ?_)
  have K6 := Keep.trans K2 Kq6 (allS (Or.inr bd7) all0)
  show ac0 p e below P (T6.setTop (mkF m 30 #[.val (.ref o0), .val (.int (0 : Int32)), .val (.int (24 : Int32)), .val (.int (24 : Int32)), .val (.ref b2)] []))
  refine az2 X6 hx (hb hby cj0) rfl rfl ?_
  have hfin : ((fun (v : Option Value) (h : Heap) (L : List Loc) => ∃ (b2 : Addr), v = some (.ref b2) ∧ Fr n0 L ∧ Keep h0 h [] ∧ h0.size ≤ b2 ∧ n0 ≤ b2 ∧ ao0 Z h b2 24)) (some (.ref b2)) h6 _ := ⟨b2, rfl, N6, K6, bd7, bb3, B6⟩
  refine as1 X6 hx hlk hP rfl rfl hrt (hb hby ck0) (by decide) (by decide) ?_
  rw [e6]; exact hfin
theorem de3 (m : MethodId) (o0 : Addr) : entryFrame m #[(.ref o0), (.int (0 : Int32)), (.int (24 : Int32))] 3 = mkF m 0 #[.val (.ref o0), .val (.int (0 : Int32)), .val (.int (24 : Int32))] [] := by first | (simp [entryFrame, mkF, argsToLocals, Value.category]; done) | rfl
set_option maxRecDepth 65536 in
set_option maxHeartbeats 40000000 in
theorem di8 (l : Launch) (Z : State) (a0 : Array Value) (hw : ∀ d ∈ tables_1, d.before a0 Z = true) (ws : List Jvm.Cond) (o0 : Addr)  (h0 : Heap) (n0 : Nat) (Z0 : n0 ≤ h0.size) (A_o0 : ao0 Z h0 o0 34) :
    as0 l Z (⟨z_s5, "copyOfRange", "([BII)[B"⟩ : MethodName) jdk_65_method_132_code 3 (some (.array .byte)) ws ({ frames := 2, cells := 1, slots := 24, locals := 56 } : Room) #[(.ref o0), (.int (0 : Int32)), (.int (24 : Int32))] h0 (fun (v : Option Value) (h : Heap) (L : List Loc) => ∃ (b2_1 : Addr), v = some (.ref b2_1) ∧ Fr n0 L ∧ Keep h0 h [] ∧ h0.size ≤ b2_1 ∧ n0 ≤ b2_1 ∧ ao0 Z h b2_1 24) := by
  refine aq0 (plainFor_of_name az0) ?_
  intro p e s m below meth c s₁ P hx hby hml hrt hlk hown hnm hZ X0 e0 hP
  have N0 := Fr.nil n0
  have K0 := Keep.refl h0 []
  have hml' : c.maxLocals = 3 := hml
  refine ar0 (de3 m o0) ?_
  show ac0 p e below P (s₁.setTop (mkF m 0 #[.val (.ref o0), .val (.int (0 : Int32)), .val (.int (24 : Int32))] []))
  refine ae0 X0 hx (hb hby cw2) rfl ?_
  refine aa3 X0 hx (hb hby cx2) ((if0 _ _).trans (teq (by decide : (0 : Int32) = (0 : Int32))).2) ?_
  refine ae0 X0 hx (hb hby cy2) rfl ?_
  refine ab0 X0 hx (hb hby cz2) rfl rfl ?_
  refine ao3 X0 hx hZ e0 A_o0 (j := (34 : Int32)) (by decide) (hb hby ca3) ?_
  refine av0 X0 hx (hb hby cb3) (feq (by decide : ¬ ((24 : Int32) = (34 : Int32)))).1 ?_
  refine ab0 X0 hx (hb hby cl0) rfl rfl ?_
  refine ae0 X0 hx (hb hby cm0) rfl ?_
  refine ae0 X0 hx (hb hby cn0) rfl ?_
  refine af1 X0 hx hZ (y := (⟨z_s5, "copyOfRangeByte", "([BII)[B"⟩ : MethodName)) hown (z_w hw 153 rfl) (z_w hw 154 rfl) (z_w hw 112 rfl) (z_w hw 155 rfl) (dh8 l Z a0 hw [] o0  h0 n0 (Nat.le_trans Z0 K0.1) A_o0) 0 e0 hml' (argsL := [(.ref o0), (.int (0 : Int32)), (.int (24 : Int32))]) (rest := []) (lenOf ai7 rfl) (hb hby co0) (fun r1 T1 L1 X1 hQ1 => ?_)
  obtain ⟨b2_1, rfl, Nq1, Kq1, bi1, bq7, f0_1⟩ := hQ1
  have N1 := Fr.app N0 Nq1
  have ne2 := z_nc A_o0.lt bi1
  have cm1 := Nat.le_trans K0.1 bi1
  have K1 := Keep.trans K0 Kq1 all0
  show ac0 p e below P (T1.setTop (mkF m 16 #[.val (.ref o0), .val (.int (0 : Int32)), .val (.int (24 : Int32))] [(.ref b2_1)]))
  have hfin : ((fun (v : Option Value) (h : Heap) (L : List Loc) => ∃ (b2_1 : Addr), v = some (.ref b2_1) ∧ Fr n0 L ∧ Keep h0 h [] ∧ h0.size ≤ b2_1 ∧ n0 ≤ b2_1 ∧ ao0 Z h b2_1 24)) (some (.ref b2_1)) T1.heap _ := ⟨b2_1, rfl, N1, K1, cm1, bq7, f0_1⟩
  refine as1 X1 hx hlk hP rfl rfl hrt (hb hby cp0) (by decide) (by decide) ?_
  exact hfin
theorem df3 (m : MethodId) (o0 : Addr) (o1 : Addr) : entryFrame m #[(.ref o0), (.ref o1), .null] 5 = mkF m 0 #[.val (.ref o0), .val (.ref o1), .val .null, .unset, .unset] [] := by first | (simp [entryFrame, mkF, argsToLocals, Value.category]; done) | rfl
set_option maxRecDepth 65536 in
set_option maxHeartbeats 40000000 in
theorem dj8 (l : Launch) (Z : State) (a0 : Array Value) (hw : ∀ d ∈ tables_1, d.before a0 Z = true) (ws : List Jvm.Cond) (o0 : Addr) (o1 : Addr) (ah0 : Addr) (aa0 : Int32) (h0 : Heap) (n0 : Nat) (Z0 : n0 ≤ h0.size) (E_o0 : Exa Z h0 o0 z_s1) (E_o1 : Exa Z h0 o1 z_s2) (al0 : Fld Z h0 o0 z_s1 "value" "[B" .null) (ai0 : Fld Z h0 o0 z_s1 "coder" "B" (.int (0 : Int32))) (ac1 : Fld Z h0 o1 z_s0 "value" "[B" (.ref ah0)) (aa1 : Fld Z h0 o1 z_s0 "coder" "B" (.int (0 : Int32))) (ah7 : Fld Z h0 o1 z_s0 "count" "I" (.int (24 : Int32))) (af0 : Sta Z h0 z_s1 z_s8 "Z" (.int aa0)) (at0 : ao0 Z h0 ah0 34) (ab1 : n0 ≤ o0) (az1 : o0 ≠ o1) (ad1 : o0 ≠ ah0) (hnz : ¬ (aa0 = (0 : Int32))) :
    as0 l Z (⟨z_s1, "<init>", "(Ljava/lang/AbstractStringBuilder;Ljava/lang/Void;)V"⟩ : MethodName) jdk_42_method_150_code 5 none ws ({ frames := 3, cells := 1, slots := 24, locals := 71 } : Room) #[(.ref o0), (.ref o1), .null] h0 (fun (v : Option Value) (h : Heap) (L : List Loc) => v = none ∧ Fr n0 L ∧ Keep h0 h [o0]) := by
  refine aq0 (plainFor_of_name au1) ?_
  intro p e s m below meth c s₁ P hx hby hml hrt hlk hown hnm hZ X0 e0 hP
  have N0 := Fr.nil n0
  have K0 := Keep.refl h0 [o0]
  have hml' : c.maxLocals = 5 := hml
  refine ar0 (df3 m o0 o1) ?_
  show ac0 p e below P (s₁.setTop (mkF m 0 #[.val (.ref o0), .val (.ref o1), .val .null, .unset, .unset] []))
  refine ab0 X0 hx (hb hby cc3) rfl rfl ?_
  obtain ⟨T1, X1, e1, st1⟩ := initO X0 hx hZ hown (z_w hw 131 rfl) (z_w hw 13 rfl) (z_w hw 14 rfl) e0 (g := (mkF m 1 #[.val (.ref o0), .val (.ref o1), .val .null, .unset, .unset] [(.ref o0)])) rfl (by rw [hml']; rfl) rfl (hb hby cd3) (by decide) (W := 0) (by show 2 * 0 + _ ≤ _; exact Nat.le_of_eq rfl) (by decide)
  refine ae1 (fun _ => st1 _) ?_
  show ac0 p e below P (T1.setTop (mkF m 4 #[.val (.ref o0), .val (.ref o1), .val .null, .unset, .unset] []))
  refine ab0 X1 hx (hb hby ce3) rfl rfl ?_
  refine ag2 X1 hx hZ (y := (⟨z_s0, "getValue", "()[B"⟩ : MethodName)) (z := (⟨z_s0, "getValue", "()[B"⟩ : MethodName)) hown (z_w hw 132 rfl) (z_w hw 133 rfl) (notFace_of_selects (args := #[]) (mvT hZ (z_w hw 135 rfl))) (z_w hw 135 rfl) (z_w hw 134 rfl) (z_w hw 36 rfl) (z_w hw 136 rfl) E_o1 (ch5 l Z a0 hw [] o1 ah0 h0 n0 (Nat.le_trans Z0 K0.1) ac1) 0 e1 hml' (argsL := []) (rest := []) (lenOf br7 rfl) (hb hby cf3) (fun r2 T2 L2 X2 hQ2 => ?_)
  obtain ⟨rfl, Nq2, eq2⟩ := hQ2
  have N2 := Fr.app N0 Nq2
  show ac0 p e below P (T2.setTop (mkF m 8 #[.val (.ref o0), .val (.ref o1), .val .null, .unset, .unset] [(.ref ah0)]))
  refine av2 X2 hx (hb hby cg3) rfl (l' := #[.val (.ref o0), .val (.ref o1), .val .null, .val (.ref ah0), .unset]) rfl ?_
  refine ab0 X2 hx (hb hby ch3) rfl rfl ?_
  refine ag2 X2 hx hZ (y := (⟨z_s0, "length", "()I"⟩ : MethodName)) (z := (⟨z_s2, "length", "()I"⟩ : MethodName)) hown (z_w hw 137 rfl) (z_w hw 138 rfl) (cg5 (args := #[]) (z := (⟨z_s0, "getValue", "()[B"⟩ : MethodName)) rfl (mvT hZ (z_w hw 134 rfl)) (notFace_of_selects (args := #[]) (mvT hZ (z_w hw 135 rfl)))) (z_w hw 140 rfl) (z_w hw 141 rfl) (z_w hw 28 rfl) (z_w hw 142 rfl) E_o1 (df8 l Z a0 hw [] o1  h0 n0 (Nat.le_trans Z0 K0.1) E_o1 ah7) 0 eq2 hml' (argsL := []) (rest := []) (lenOf az4 rfl) (hb hby cq0) (fun r3 T3 L3 X3 hQ3 => ?_)
  obtain ⟨rfl, Nq3, eq3⟩ := hQ3
  have N3 := Fr.app N2 Nq3
  show ac0 p e below P (T3.setTop (mkF m 13 #[.val (.ref o0), .val (.ref o1), .val .null, .val (.ref ah0), .unset] [(.int (24 : Int32))]))
  refine ai1 X3 hx (hb hby cr0) (l' := #[.val (.ref o0), .val (.ref o1), .val .null, .val (.ref ah0), .val (.int (24 : Int32))]) rfl ?_
  refine ab0 X3 hx (hb hby cs0) rfl rfl ?_
  refine ag2 X3 hx hZ (y := (⟨z_s0, "isLatin1", "()Z"⟩ : MethodName)) (z := (⟨z_s0, "isLatin1", "()Z"⟩ : MethodName)) hown (z_w hw 145 rfl) (z_w hw 146 rfl) (notFace_of_selects (args := #[]) (mvT hZ (z_w hw 148 rfl))) (z_w hw 148 rfl) (z_w hw 147 rfl) (z_w hw 36 rfl) (z_w hw 149 rfl) E_o1 (ct4 l Z a0 hw [] o1 aa0 h0 n0 (Nat.le_trans Z0 K0.1) aa1 af0 hnz) 0 eq3 hml' (argsL := []) (rest := []) (lenOf bu5 rfl) (hb hby ct0) (fun r4 T4 L4 X4 hQ4 => ?_)
  obtain ⟨rfl, Nq4, eq4⟩ := hQ4
  have N4 := Fr.app N3 Nq4
  show ac0 p e below P (T4.setTop (mkF m 19 #[.val (.ref o0), .val (.ref o1), .val .null, .val (.ref ah0), .val (.int (24 : Int32))] [(.int (1 : Int32))]))
  refine aa3 X4 hx (hb hby cu0) ((if0 _ _).trans (feq (by decide : ¬ ((1 : Int32) = (0 : Int32)))).1) ?_
  refine ab0 X4 hx (hb hby cv0) rfl rfl ?_
  refine am0 X4 hx (hb hby cw0) (z := (0 : Int32)) rfl ?_
  obtain ⟨T5, h5, X5, e5, W5, st5⟩ := putFN X4 hx hZ hown (z_w hw 66 rfl) Via.refl eq4 ai0 E_o0 (Or.inr ⟨(z_w hw 20 rfl), rfl, hnm⟩) (z_w hw 17 rfl) (ty := .byte) (v' := (.int (nar .byte (0 : Int32)))) (by decide) rfl (fits_nar_byte _) (g := (mkF m 24 #[.val (.ref o0), .val (.ref o1), .val .null, .val (.ref ah0), .val (.int (24 : Int32))] [(.int (0 : Int32)), (.ref o0)])) rfl rfl (hb hby cx0)
  have N5 := Fr.snoc X5 N4 ab1
  have K5 := Keep.wr K0 W5 (Or.inl (List.mem_of_getElem? (i := 0) rfl))
  have F5 := ai0.same W5
  refine ae1 (fun _ => st5 _) ?_
  show ac0 p e below P (T5.setTop (mkF m 27 #[.val (.ref o0), .val (.ref o1), .val .null, .val (.ref ah0), .val (.int (24 : Int32))] []))
  refine ab0 X5 hx (hb hby cy0) rfl rfl ?_
  refine ab0 X5 hx (hb hby cz0) rfl rfl ?_
  refine am0 X5 hx (hb hby ca1) (z := (0 : Int32)) rfl ?_
  refine ak0 X5 hx (hb hby cb1) rfl ?_
  have G7 := (at0.other W5 ad1.symm)
  refine af1 X5 hx hZ (y := (⟨z_s5, "copyOfRange", "([BII)[B"⟩ : MethodName)) hown (z_w hw 150 rfl) (z_w hw 151 rfl) (z_w hw 112 rfl) (z_w hw 152 rfl) (di8 l Z a0 hw [] ah0  h5 n0 (Nat.le_trans Z0 K5.1) G7) 1 e5 hml' (argsL := [(.ref ah0), (.int (0 : Int32)), (.int (24 : Int32))]) (rest := [(.ref o0)]) (lenOf ai7 rfl) (hb hby cc1) (fun r6 T6 L6 X6 hQ6 => ?_)
  obtain ⟨b2_1_6, rfl, Nq6, Kq6, ae5, cb5, f0_6⟩ := hQ6
  have N6 := Fr.app N5 Nq6
  have G8 := (E_o0.wr W5)
  have ne9 := z_nc G8.lt ae5
  have G10 := (E_o1.wr W5)
  have ne11 := z_nc G10.lt ae5
  have ne12 := z_nc G7.lt ae5
  have cm5 := Nat.le_trans K5.1 ae5
  have K6 := Keep.trans K5 Kq6 all0
  show ac0 p e below P (T6.setTop (mkF m 35 #[.val (.ref o0), .val (.ref o1), .val .null, .val (.ref ah0), .val (.int (24 : Int32))] [(.ref b2_1_6), (.ref o0)]))
  have G13 := ((al0.other W5 (Or.inr (slot_ne (Or.inr (z_w hw 19 rfl)) (Or.inr (z_w hw 20 rfl)) (by decide) (t := (.array .byte)) (t' := .byte) (by decide) (by decide)))).keep Kq6 nin0)
  have G14 := (G8.keep Kq6)
  refine aj7 X6 hx hZ hown (host := "") (Or.inl (z_w hw 59 rfl)) Via.refl rfl G13 G14 (Or.inr ⟨(z_w hw 19 rfl), rfl, hnm⟩) (z_w hw 17 rfl) (ty := (.array .byte)) (by decide) (hb hby cd1) (fun T15 h15 X15 e15 W15 => ?_)
  have N15 := Fr.snoc X15 N6 ab1
  have K15 := Keep.wr K6 W15 (Or.inl (List.mem_of_getElem? (i := 0) rfl))
  have F15 := G13.same W15
  refine am1 X15 hx (pc' := 97) (hb hby ce1) ?_
  have hfin : ((fun (v : Option Value) (h : Heap) (L : List Loc) => v = none ∧ Fr n0 L ∧ Keep h0 h [o0])) none h15 _ := ⟨rfl, N15, K15⟩
  refine at1 X15 hx hlk hP hrt (hb hby cf1) (by decide) (by decide) ?_
  rw [e15]; exact hfin
theorem dg3 (m : MethodId) (o0 : Addr) (o1 : Addr) : entryFrame m #[(.ref o0), (.ref o1)] 2 = mkF m 0 #[.val (.ref o0), .val (.ref o1)] [] := by first | (simp [entryFrame, mkF, argsToLocals, Value.category]; done) | rfl
set_option maxRecDepth 65536 in
set_option maxHeartbeats 40000000 in
theorem dk8 (l : Launch) (Z : State) (a0 : Array Value) (hw : ∀ d ∈ tables_1, d.before a0 Z = true) (ws : List Jvm.Cond) (o0 : Addr) (o1 : Addr) (ah0 : Addr) (aa0 : Int32) (h0 : Heap) (n0 : Nat) (Z0 : n0 ≤ h0.size) (E_o0 : Exa Z h0 o0 z_s1) (E_o1 : Exa Z h0 o1 z_s2) (al0 : Fld Z h0 o0 z_s1 "value" "[B" .null) (ai0 : Fld Z h0 o0 z_s1 "coder" "B" (.int (0 : Int32))) (ac1 : Fld Z h0 o1 z_s0 "value" "[B" (.ref ah0)) (aa1 : Fld Z h0 o1 z_s0 "coder" "B" (.int (0 : Int32))) (ah7 : Fld Z h0 o1 z_s0 "count" "I" (.int (24 : Int32))) (af0 : Sta Z h0 z_s1 z_s8 "Z" (.int aa0)) (at0 : ao0 Z h0 ah0 34) (ab1 : n0 ≤ o0) (az1 : o0 ≠ o1) (ad1 : o0 ≠ ah0) (hnz : ¬ (aa0 = (0 : Int32))) :
    as0 l Z (⟨z_s1, "<init>", "(Ljava/lang/StringBuilder;)V"⟩ : MethodName) jdk_42_method_53_code 2 none ws ({ frames := 4, cells := 1, slots := 24, locals := 87 } : Room) #[(.ref o0), (.ref o1)] h0 (fun (v : Option Value) (h : Heap) (L : List Loc) => v = none ∧ Fr n0 L ∧ Keep h0 h [o0]) := by
  refine aq0 (plainFor_of_name au1) ?_
  intro p e s m below meth c s₁ P hx hby hml hrt hlk hown hnm hZ X0 e0 hP
  have N0 := Fr.nil n0
  have K0 := Keep.refl h0 [o0]
  have hml' : c.maxLocals = 2 := hml
  refine ar0 (dg3 m o0 o1) ?_
  show ac0 p e below P (s₁.setTop (mkF m 0 #[.val (.ref o0), .val (.ref o1)] []))
  refine ab0 X0 hx (hb hby ci3) rfl rfl ?_
  refine ab0 X0 hx (hb hby cj3) rfl rfl ?_
  refine ai8 X0 hx (hb hby ck3) ?_
  refine ai9 X0 hx hZ (y := (⟨z_s1, "<init>", "(Ljava/lang/AbstractStringBuilder;Ljava/lang/Void;)V"⟩ : MethodName)) hown (z_w hw 128 rfl) (z_w hw 129 rfl) (z_w hw 16 rfl) (z_w hw 130 rfl) (dj8 l Z a0 hw [] o0 o1 ah0 aa0 h0 n0 (Nat.le_trans Z0 K0.1) E_o0 E_o1 al0 ai0 ac1 aa1 ah7 af0 at0 ab1 az1 ad1 hnz) 0 e0 hml' (a := o0) (argsL := [(.ref o1), .null]) (rest := []) (lenOf ay2 rfl) (hb hby cl3) (fun r1 T1 L1 X1 hQ1 => ?_)
  obtain ⟨rfl, Nq1, Kq1⟩ := hQ1
  have N1 := Fr.app N0 Nq1
  have K1 := Keep.trans K0 Kq1 (allS (Or.inl (List.mem_of_getElem? (i := 0) rfl)) all0)
  show ac0 p e below P (T1.setTop (mkF m 6 #[.val (.ref o0), .val (.ref o1)] []))
  have hfin : ((fun (v : Option Value) (h : Heap) (L : List Loc) => v = none ∧ Fr n0 L ∧ Keep h0 h [o0])) none T1.heap _ := ⟨rfl, N1, K1⟩
  refine at1 X1 hx hlk hP hrt (hb hby cm3) (by decide) (by decide) ?_
  exact hfin
theorem dh3 (m : MethodId) (o0 : Addr) : entryFrame m #[(.ref o0)] 1 = mkF m 0 #[.val (.ref o0)] [] := by first | (simp [entryFrame, mkF, argsToLocals, Value.category]; done) | rfl
set_option maxRecDepth 65536 in
set_option maxHeartbeats 40000000 in
theorem dl8 (l : Launch) (Z : State) (a0 : Array Value) (hw : ∀ d ∈ tables_1, d.before a0 Z = true) (ws : List Jvm.Cond) (o0 : Addr) (ad0 : Addr) (aa0 : Int32) (h0 : Heap) (n0 : Nat) (Z0 : n0 ≤ h0.size) (E_o0 : Exa Z h0 o0 z_s2) (al0 : Fld Z h0 o0 z_s0 "value" "[B" (.ref ad0)) (ai0 : Fld Z h0 o0 z_s0 "coder" "B" (.int (0 : Int32))) (ay0 : Fld Z h0 o0 z_s0 "count" "I" (.int (24 : Int32))) (af0 : Sta Z h0 z_s1 z_s8 "Z" (.int aa0)) (aj0 : ao0 Z h0 ad0 34) (hnz : ¬ (aa0 = (0 : Int32))) :
    as0 l Z (⟨z_s2, "toString", "()Ljava/lang/String;"⟩ : MethodName) jdk_67_method_42_code 1 (some (.object z_s1)) ws ({ frames := 5, cells := 2, slots := 28, locals := 101 } : Room) #[(.ref o0)] h0 (fun (v : Option Value) (h : Heap) (L : List Loc) => ∃ (b1 : Addr), v = some (.ref b1) ∧ Fr n0 L ∧ Keep h0 h [] ∧ h0.size ≤ b1 ∧ n0 ≤ b1) := by
  refine aq0 (plainFor_of_name ar1) ?_
  intro p e s m below meth c s₁ P hx hby hml hrt hlk hown hnm hZ X0 e0 hP
  have N0 := Fr.nil n0
  have K0 := Keep.refl h0 []
  have hml' : c.maxLocals = 1 := hml
  refine ar0 (dh3 m o0) ?_
  show ac0 p e below P (s₁.setTop (mkF m 0 #[.val (.ref o0)] []))
  obtain ⟨T1, h1, X1, e1, E1, A1, D1, -, st1⟩ := newO X0 hx hZ hown (z_w hw 123 rfl) (z_w hw 17 rfl) (z_w hw 16 rfl) e0 (g := (mkF m 0 #[.val (.ref o0)] [])) rfl (hb hby cn3) (by decide) (by decide)
  obtain ⟨b1, g1⟩ : ∃ z, z = h0.size := ⟨_, rfl⟩
  rw [← g1] at A1 D1 st1
  have ne2 := z_nb E_o0.lt g1
  have ne3 := z_nb aj0.lt g1
  have ao1 : n0 ≤ b1 := Nat.le_trans (Nat.le_trans Z0 K0.1) (Nat.le_of_eq g1.symm)
  have ay1 : h0.size ≤ b1 := Nat.le_trans K0.1 (Nat.le_of_eq g1.symm)
  have K1 := Keep.ext K0 E1
  have at4 : Fld Z h1 b1 z_s1 "value" "[B" .null := D1 (Or.inr (z_w hw 19 rfl)) (ty := (.array .byte)) (by decide)
  have au4 : Fld Z h1 b1 z_s1 "coder" "B" (.int (0 : Int32)) := D1 (Or.inr (z_w hw 20 rfl)) (ty := .byte) (by decide)
  refine ae1 (fun _ => st1 _) ?_
  show ac0 p e below P (T1.setTop (mkF m 3 #[.val (.ref o0)] [(.ref b1)]))
  refine an6 X1 hx (hb hby co3) rfl ?_
  refine ab0 X1 hx (hb hby cp3) rfl rfl ?_
  have G5 := (E_o0.ext E1)
  have G6 := (al0.ext E1)
  have G7 := (ai0.ext E1)
  have G8 := (ay0.ext E1)
  have G9 := (af0.ext E1)
  have G10 := (aj0.ext E1)
  refine ai9 X1 hx hZ (y := (⟨z_s1, "<init>", "(Ljava/lang/StringBuilder;)V"⟩ : MethodName)) hown (z_w hw 124 rfl) (z_w hw 125 rfl) (z_w hw 16 rfl) (z_w hw 127 rfl) (dk8 l Z a0 hw [] b1 o0 ad0 aa0 h1 n0 (Nat.le_trans Z0 K1.1) A1 G5 at4 au4 G6 G7 G8 G9 G10 ao1 ne2.symm ne3.symm hnz) 1 e1 hml' (a := b1) (argsL := [(.ref o0)]) (rest := [(.ref b1)]) (lenOf ad5 rfl) (hb hby cq3) (fun r4 T4 L4 X4 hQ4 => ?_)
  obtain ⟨rfl, Nq4, Kq4⟩ := hQ4
  have N4 := Fr.app N0 Nq4
  have K4 := Keep.trans K1 Kq4 (allS (Or.inr ay1) all0)
  show ac0 p e below P (T4.setTop (mkF m 8 #[.val (.ref o0)] [(.ref b1)]))
  have hfin : ((fun (v : Option Value) (h : Heap) (L : List Loc) => ∃ (b1 : Addr), v = some (.ref b1) ∧ Fr n0 L ∧ Keep h0 h [] ∧ h0.size ≤ b1 ∧ n0 ≤ b1)) (some (.ref b1)) T4.heap _ := ⟨b1, rfl, N4, K4, ay1, ao1⟩
  refine as1 X4 hx hlk hP rfl rfl hrt (hb hby cr3) (by decide) (by decide) ?_
  exact hfin
theorem di3 : decode jdk_31_method_11_code 0 = .ok (.aload_n 0, 1) := by decide +kernel
theorem dj3 : decode jdk_31_method_11_code 1 = .ok (.ifnonnull 12, 3) := by decide +kernel
theorem cn7 : decode jdk_31_method_11_code 13 = .ok (.aload_n 0, 1) := by decide +kernel
theorem co7 : decode jdk_31_method_11_code 14 = .ok (.areturn, 1) := by decide +kernel
theorem dm8 (m : MethodId) (o0 : Addr) (o1 : Addr) : entryFrame m #[(.ref o0), (.ref o1)] 2 = mkF m 0 #[.val (.ref o0), .val (.ref o1)] [] := by first | (simp [entryFrame, mkF, argsToLocals, Value.category]; done) | rfl
theorem bs7 : plainName "java/util/Objects" = true := by first | (simp [plainName, overriddenIn]; done) | decide +kernel
set_option maxRecDepth 65536 in
set_option maxHeartbeats 40000000 in
theorem bt7 (l : Launch) (Z : State) (a0 : Array Value) (hw : ∀ d ∈ tables_1, d.before a0 Z = true) (ws : List Jvm.Cond) (o0 : Addr) (o1 : Addr)  (h0 : Heap) (n0 : Nat) (Z0 : n0 ≤ h0.size)  :
    as0 l Z (⟨"java/util/Objects", "requireNonNull", co1⟩ : MethodName) jdk_31_method_11_code 2 (some (.object "java/lang/Object")) ws ({ frames := 0, cells := 0, slots := 0, locals := 0 } : Room) #[(.ref o0), (.ref o1)] h0 (fun (v : Option Value) (h : Heap) (L : List Loc) => v = some (.ref o0) ∧ Fr n0 L ∧ h = h0) := by
  refine aq0 (plainFor_of_name bs7) ?_
  intro p e s m below meth c s₁ P hx hby hml hrt hlk hown hnm hZ X0 e0 hP
  have N0 := Fr.nil n0
  have K0 := Keep.refl h0 []
  have hml' : c.maxLocals = 2 := hml
  refine ar0 (dm8 m o0 o1) ?_
  show ac0 p e below P (s₁.setTop (mkF m 0 #[.val (.ref o0), .val (.ref o1)] []))
  refine ab0 X0 hx (hb hby di3) rfl rfl ?_
  refine al7 X0 hx (pc' := 13) (hb hby dj3) ?_
  refine ab0 X0 hx (hb hby cn7) rfl rfl ?_
  exact as1 X0 hx hlk hP rfl rfl hrt (hb hby co7) (by decide) (by decide) ⟨rfl, N0, e0⟩
abbrev bv2 (n : Nat) : Prop := n = 5 ∨ n = 6 ∨ n = 7
set_option maxRecDepth 65536 in
set_option maxHeartbeats 40000000 in
theorem bu7 (l : Launch) (Z : State) (a0 : Array Value) (hw : ∀ d ∈ tables_1, d.before a0 Z = true) (ws : List Jvm.Cond) (o0 : Addr) (o1 : Addr) (n : Nat) (ad0 : Addr) (ah0 : Addr) (aa0 : Int32) (h0 : Heap) (n0 : Nat) (Z0 : n0 ≤ h0.size) (E_o0 : Exa Z h0 o0 z_s2) (E_o1 : Exa Z h0 o1 z_s1) (al0 : Fld Z h0 o0 z_s0 "value" "[B" (.ref ad0)) (ai0 : Fld Z h0 o0 z_s0 "coder" "B" (.int (0 : Int32))) (ay0 : Fld Z h0 o0 z_s0 "count" "I" (.int (0 : Int32))) (ac1 : Fld Z h0 o1 z_s1 "value" "[B" (.ref ah0)) (aa1 : Fld Z h0 o1 z_s1 "coder" "B" (.int (0 : Int32))) (af0 : Sta Z h0 z_s1 z_s8 "Z" (.int aa0)) (aj0 : ao0 Z h0 ad0 16) (at0 : ao0 Z h0 ah0 n) (ab1 : n0 ≤ o0) (av1 : n0 ≤ ad0) (aw0 : o0 ≠ ad0) (az1 : o0 ≠ o1) (ad1 : o0 ≠ ah0) (ax2 : ad0 ≠ o1) (ax1 : ad0 ≠ ah0) (hnz : ¬ (aa0 = (0 : Int32))) (hn : bv2 n) :
    as0 l Z (⟨z_s2, "append", z_s4⟩ : MethodName) jdk_67_method_7_code 2 (some (.object z_s2)) ws ({ frames := 4, cells := 0, slots := 0, locals := 83 } : Room) #[(.ref o0), (.ref o1)] h0 (fun (v : Option Value) (h : Heap) (L : List Loc) => v = some (.ref o0) ∧ Fr n0 L ∧ Keep h0 h [o0, ad0] ∧ Exa Z h o0 z_s2 ∧ Fld Z h o0 z_s0 "value" "[B" (.ref ad0) ∧ Fld Z h o0 z_s0 "coder" "B" (.int (0 : Int32)) ∧ Fld Z h o0 z_s0 "count" "I" (.int (Int32.ofNat n)) ∧ ao0 Z h ad0 16) := by
  rcases hn with rfl | rfl | rfl
  · exact d2 l Z a0 hw ws o0 o1 ad0 ah0 aa0 h0 n0 Z0 E_o0 E_o1 al0 ai0 ay0 ac1 aa1 af0 aj0 at0 ab1 av1 aw0 az1 ad1 ax2 ax1 hnz
  · exact db2 l Z a0 hw ws o0 o1 ad0 ah0 aa0 h0 n0 Z0 E_o0 E_o1 al0 ai0 ay0 ac1 aa1 af0 aj0 at0 ab1 av1 aw0 az1 ad1 ax2 ax1 hnz
  · exact dd2 l Z a0 hw ws o0 o1 ad0 ah0 aa0 h0 n0 Z0 E_o0 E_o1 al0 ai0 ay0 ac1 aa1 af0 aj0 at0 ab1 av1 aw0 az1 ad1 ax2 ax1 hnz
set_option maxRecDepth 65536 in
set_option maxHeartbeats 40000000 in
theorem bv7 (l : Launch) (Z : State) (a0 : Array Value) (hw : ∀ d ∈ tables_1, d.before a0 Z = true) (ws : List Jvm.Cond) (o0 : Addr) (o1 : Addr) (n : Nat) (ad0 : Addr) (ah0 : Addr) (aa0 : Int32) (h0 : Heap) (n0 : Nat) (Z0 : n0 ≤ h0.size) (E_o0 : Exa Z h0 o0 z_s2) (E_o1 : Exa Z h0 o1 z_s1) (al0 : Fld Z h0 o0 z_s0 "value" "[B" (.ref ad0)) (ai0 : Fld Z h0 o0 z_s0 "coder" "B" (.int (0 : Int32))) (ay0 : Fld Z h0 o0 z_s0 "count" "I" (.int (Int32.ofNat n))) (ac1 : Fld Z h0 o1 z_s1 "value" "[B" (.ref ah0)) (aa1 : Fld Z h0 o1 z_s1 "coder" "B" (.int (0 : Int32))) (af0 : Sta Z h0 z_s1 z_s8 "Z" (.int aa0)) (aj0 : ao0 Z h0 ad0 16) (at0 : ao0 Z h0 ah0 17) (ab1 : n0 ≤ o0) (aw0 : o0 ≠ ad0) (az1 : o0 ≠ o1) (ad1 : o0 ≠ ah0) (hnz : ¬ (aa0 = (0 : Int32))) (hn : bv2 n) :
    as0 l Z (⟨z_s2, "append", z_s4⟩ : MethodName) jdk_67_method_7_code 2 (some (.object z_s2)) ws ({ frames := 5, cells := 1, slots := 34, locals := 83 } : Room) #[(.ref o0), (.ref o1)] h0 (fun (v : Option Value) (h : Heap) (L : List Loc) => ∃ (b1_6_3_1 : Addr), v = some (.ref o0) ∧ Fr n0 L ∧ Keep h0 h [o0] ∧ h0.size ≤ b1_6_3_1 ∧ n0 ≤ b1_6_3_1 ∧ Exa Z h o0 z_s2 ∧ Fld Z h o0 z_s0 "value" "[B" (.ref b1_6_3_1) ∧ Fld Z h o0 z_s0 "coder" "B" (.int (0 : Int32)) ∧ Fld Z h o0 z_s0 "count" "I" (.int (Int32.ofNat (n + 17))) ∧ ao0 Z h b1_6_3_1 34) := by
  rcases hn with rfl | rfl | rfl
  · exact ce7 l Z a0 hw ws o0 o1 ad0 ah0 aa0 h0 n0 Z0 E_o0 E_o1 al0 ai0 ay0 ac1 aa1 af0 aj0 at0 ab1 aw0 az1 ad1 hnz
  · exact cg7 l Z a0 hw ws o0 o1 ad0 ah0 aa0 h0 n0 Z0 E_o0 E_o1 al0 ai0 ay0 ac1 aa1 af0 aj0 at0 ab1 aw0 az1 ad1 hnz
  · exact ci7 l Z a0 hw ws o0 o1 ad0 ah0 aa0 h0 n0 Z0 E_o0 E_o1 al0 ai0 ay0 ac1 aa1 af0 aj0 at0 ab1 aw0 az1 ad1 hnz
set_option maxRecDepth 65536 in
set_option maxHeartbeats 40000000 in
theorem bw7 (l : Launch) (Z : State) (a0 : Array Value) (hw : ∀ d ∈ tables_1, d.before a0 Z = true) (ws : List Jvm.Cond) (o0 : Addr) (n : Nat) (ad0 : Addr) (aa0 : Int32) (h0 : Heap) (n0 : Nat) (Z0 : n0 ≤ h0.size) (E_o0 : Exa Z h0 o0 z_s2) (al0 : Fld Z h0 o0 z_s0 "value" "[B" (.ref ad0)) (ai0 : Fld Z h0 o0 z_s0 "coder" "B" (.int (0 : Int32))) (ay0 : Fld Z h0 o0 z_s0 "count" "I" (.int (Int32.ofNat (n + 17)))) (af0 : Sta Z h0 z_s1 z_s8 "Z" (.int aa0)) (aj0 : ao0 Z h0 ad0 34) (hnz : ¬ (aa0 = (0 : Int32))) (hn : bv2 n) :
    as0 l Z (⟨z_s2, "toString", "()Ljava/lang/String;"⟩ : MethodName) jdk_67_method_42_code 1 (some (.object z_s1)) ws ({ frames := 5, cells := 2, slots := 28, locals := 101 } : Room) #[(.ref o0)] h0 (fun (v : Option Value) (h : Heap) (L : List Loc) => ∃ (b1 : Addr), v = some (.ref b1) ∧ Fr n0 L ∧ Keep h0 h [] ∧ h0.size ≤ b1 ∧ n0 ≤ b1) := by
  rcases hn with rfl | rfl | rfl
  · exact dw7 l Z a0 hw ws o0 ad0 aa0 h0 n0 Z0 E_o0 al0 ai0 ay0 af0 aj0 hnz
  · exact dd8 l Z a0 hw ws o0 ad0 aa0 h0 n0 Z0 E_o0 al0 ai0 ay0 af0 aj0 hnz
  · exact dl8 l Z a0 hw ws o0 ad0 aa0 h0 n0 Z0 E_o0 al0 ai0 ay0 af0 aj0 hnz
theorem am3 : ∀ y ∈ ([] : List Int32), ¬ y < (0 : Int32) := fun _ h => by cases h
theorem aa2 {a : Int32} {l : List Int32} (h : ¬ a < (0 : Int32)) (t : ∀ y ∈ l, ¬ y < (0 : Int32)) : ∀ y ∈ a :: l, ¬ y < (0 : Int32) := fun y hy => by rcases List.mem_cons.mp hy with rfl | hy; exact h; exact t y hy
theorem et0 {l m : List Int32} (h : ∀ y ∈ l, ¬ y < (0 : Int32)) (t : ∀ y ∈ m, ¬ y < (0 : Int32)) : ∀ y ∈ l ++ m, ¬ y < (0 : Int32) := fun y hy => (List.mem_append.mp hy).elim (h y) (t y)
theorem b7 {xs : List Int32} (h : xs.length = 0) : xs = [] := List.length_eq_zero_iff.mp h
theorem ba7 {xs : List Int32} (h : xs.length = 1) : ∃ a, xs = [a] := match xs, h with | [a], _ => ⟨a, rfl⟩
theorem bb7 {xs : List Int32} (h : xs.length = 2) : ∃ a b, xs = [a, b] := match xs, h with | [a, b], _ => ⟨a, b, rfl⟩
theorem bx7 {xs : List Int32} (h : xs.length = 3) : ∃ a b c, xs = [a, b, c] := match xs, h with | [a, b, c], _ => ⟨a, b, c, rfl⟩
theorem by7 {xs : List Int32} (h : xs.length = 4) : ∃ a b c d, xs = [a, b, c, d] := match xs, h with | [a, b, c, d], _ => ⟨a, b, c, d, rfl⟩
theorem da0 {xs : List Int32} (h : xs.length ≤ 2) : xs = [] ∨ (∃ a, xs = [a]) ∨ ∃ a b, xs = [a, b] := by
  obtain q | q | q : xs.length = 0 ∨ xs.length = 1 ∨ xs.length = 2 := by omega
  · exact Or.inl (b7 q)
  · exact Or.inr (Or.inl (ba7 q))
  · exact Or.inr (Or.inr (bb7 q))
theorem ec2 {xs : List Int32} (h : xs.length ≤ 4) : xs = [] ∨ (∃ a, xs = [a]) ∨ (∃ a b, xs = [a, b]) ∨ (∃ a b c, xs = [a, b, c]) ∨ ∃ a b c d, xs = [a, b, c, d] := by
  obtain q | q | q | q | q : xs.length = 0 ∨ xs.length = 1 ∨ xs.length = 2 ∨ xs.length = 3 ∨ xs.length = 4 := by omega
  · exact Or.inl (b7 q)
  · exact Or.inr (Or.inl (ba7 q))
  · exact Or.inr (Or.inr (Or.inl (bb7 q)))
  · exact Or.inr (Or.inr (Or.inr (Or.inl (bx7 q))))
  · exact Or.inr (Or.inr (Or.inr (Or.inr (by7 q))))
theorem bv5 : decode jdk_2529_method_6_code 0 = .ok (.iload_n 1, 1) := by decide +kernel
theorem bw5 : decode jdk_2529_method_6_code 1 = .ok (.istore 4, 2) := by decide +kernel
theorem aj6 : decode jdk_2529_method_6_code 3 = .ok (.iinc 4 1, 3) := by decide +kernel
theorem ak6 : decode jdk_2529_method_6_code 6 = .ok (.iload 4, 2) := by decide +kernel
theorem al6 : decode jdk_2529_method_6_code 8 = .ok (.iload_n 2, 1) := by decide +kernel
theorem am6 : decode jdk_2529_method_6_code 9 = .ok (.if_icmp .ge 58, 3) := by decide +kernel
theorem bs0 : decode jdk_2529_method_6_code 67 = .ok (.return_, 1) := by decide +kernel
theorem dn8 (m : MethodId) (o0 : Addr) : entryFrame m #[(.ref o0), (.int (0 : Int32)), (.int (0 : Int32))] 6 = mkF m 0 #[.val (.ref o0), .val (.int (0 : Int32)), .val (.int (0 : Int32)), .unset, .unset, .unset] [] := by first | (simp [entryFrame, mkF, argsToLocals, Value.category]; done) | rfl
theorem aj1 : plainName z_s7 = true := by first | (simp [plainName, overriddenIn]; done) | decide +kernel
set_option maxRecDepth 65536 in
set_option maxHeartbeats 40000000 in
theorem eu0 (l : Launch) (Z : State) (a0 : Array Value) (hw : ∀ d ∈ tables_1, d.before a0 Z = true) (ws : List Jvm.Cond) (o0 : Addr)  (h0 : Heap) (n0 : Nat) (Z0 : n0 ≤ h0.size) (A_o0 : ag0 Z h0 o0 ([] : List Int32)) (ab1 : n0 ≤ o0) :
    as0 l Z (⟨z_s7, "insertionSort", "([III)V"⟩ : MethodName) jdk_2529_method_6_code 6 none ws ({ frames := 0, cells := 0, slots := 0, locals := 0 } : Room) #[(.ref o0), (.int (0 : Int32)), (.int (0 : Int32))] h0 (fun (v : Option Value) (h : Heap) (L : List Loc) => ∃ ys : List Int32, v = none ∧ Fr n0 L ∧ Keep h0 h [o0] ∧ ag0 Z h o0 ys ∧ ys.length = 0 ∧ ∀ y ∈ ys, ¬ y < (0 : Int32)) := by
  refine aq0 (plainFor_of_name aj1) ?_
  intro p e s m below meth c s₁ P hx hby hml hrt hlk hown hnm hZ X0 e0 hP
  have N0 := Fr.nil n0
  have K0 := Keep.refl h0 [o0]
  have hml' : c.maxLocals = 6 := hml
  refine ar0 (dn8 m o0) ?_
  show ac0 p e below P (s₁.setTop (mkF m 0 #[.val (.ref o0), .val (.int (0 : Int32)), .val (.int (0 : Int32)), .unset, .unset, .unset] []))
  refine ae0 X0 hx (hb hby bv5) rfl ?_
  refine ai1 X0 hx (hb hby bw5) (l' := #[.val (.ref o0), .val (.int (0 : Int32)), .val (.int (0 : Int32)), .unset, .val (.int (0 : Int32)), .unset]) rfl ?_
  refine aq1 X0 hx (hb hby aj6) rfl (l' := #[.val (.ref o0), .val (.int (0 : Int32)), .val (.int (0 : Int32)), .unset, .val (.int (1 : Int32)), .unset]) rfl ?_
  refine ak0 X0 hx (hb hby ak6) rfl ?_
  refine ae0 X0 hx (hb hby al6) rfl ?_
  refine au0 X0 hx (pc' := 67) (hb hby am6) (flt (by decide : ¬ ((1 : Int32) < (0 : Int32)))).2.1 ?_
  refine at1 X0 hx hlk hP hrt (hb hby bs0) (by decide) (by decide) ?_
  have hfin : (fun (v : Option Value) (h : Heap) (L : List Loc) => ∃ ys : List Int32, v = none ∧ Fr n0 L ∧ Keep h0 h [o0] ∧ ag0 Z h o0 ys ∧ ys.length = 0 ∧ ∀ y ∈ ys, ¬ y < (0 : Int32)) none h0 _ := ⟨([] : List Int32), rfl, N0, K0, A_o0, rfl, am3⟩
  rw [e0]; exact hfin
theorem bx5 : decode jdk_2529_method_4_code 0 = .ok (.iload 4, 2) := by decide +kernel
theorem by5 : decode jdk_2529_method_4_code 2 = .ok (.iconst 1, 1) := by decide +kernel
theorem bz5 : decode jdk_2529_method_4_code 3 = .ok (.isub, 1) := by decide +kernel
theorem b6 : decode jdk_2529_method_4_code 4 = .ok (.istore 5, 2) := by decide +kernel
theorem ba6 : decode jdk_2529_method_4_code 6 = .ok (.iload 4, 2) := by decide +kernel
theorem bb6 : decode jdk_2529_method_4_code 8 = .ok (.iload_n 3, 1) := by decide +kernel
theorem bc6 : decode jdk_2529_method_4_code 9 = .ok (.isub, 1) := by decide +kernel
theorem bc3 : decode jdk_2529_method_4_code 10 = .ok (.istore 6, 2) := by decide +kernel
theorem bd3 : decode jdk_2529_method_4_code 12 = .ok (.iload 6, 2) := by decide +kernel
theorem be3 : decode jdk_2529_method_4_code 14 = .ok (.bipush 65, 2) := by decide +kernel
theorem bf3 : decode jdk_2529_method_4_code 16 = .ok (.iload_n 2, 1) := by decide +kernel
theorem bg3 : decode jdk_2529_method_4_code 17 = .ok (.iadd, 1) := by decide +kernel
theorem bh3 : decode jdk_2529_method_4_code 18 = .ok (.if_icmp .ge 28, 3) := by decide +kernel
theorem bi3 : decode jdk_2529_method_4_code 21 = .ok (.iload_n 2, 1) := by decide +kernel
theorem bj3 : decode jdk_2529_method_4_code 22 = .ok (.iconst 1, 1) := by decide +kernel
theorem bk3 : decode jdk_2529_method_4_code 23 = .ok (.iand, 1) := by decide +kernel
theorem bl3 : decode jdk_2529_method_4_code 24 = .ok (.ifCond .le 22, 3) := by decide +kernel
theorem bm3 : decode jdk_2529_method_4_code 46 = .ok (.iload 6, 2) := by decide +kernel
theorem bn3 : decode jdk_2529_method_4_code 48 = .ok (.bipush 44, 2) := by decide +kernel
theorem bo3 : decode jdk_2529_method_4_code 50 = .ok (.if_icmp .ge 11, 3) := by decide +kernel
theorem bp3 : decode jdk_2529_method_4_code 53 = .ok (.aload_n 1, 1) := by decide +kernel
theorem bq3 : decode jdk_2529_method_4_code 54 = .ok (.iload_n 3, 1) := by decide +kernel
theorem br3 : decode jdk_2529_method_4_code 55 = .ok (.iload 4, 2) := by decide +kernel
theorem bs3 : decode jdk_2529_method_4_code 57 = .ok (.invokestatic 34, 3) := by decide +kernel
theorem ag9 : parseMethodDescriptor "([III)V" = some ⟨[(.array .int), .int, .int], none⟩ := by decide +kernel
theorem bt3 : decode jdk_2529_method_4_code 60 = .ok (.return_, 1) := by decide +kernel
theorem do8 (m : MethodId) (o1 : Addr) : entryFrame m #[.null, (.ref o1), (.int (0 : Int32)), (.int (0 : Int32)), (.int (0 : Int32))] 21 = mkF m 0 #[.val .null, .val (.ref o1), .val (.int (0 : Int32)), .val (.int (0 : Int32)), .val (.int (0 : Int32)), .unset, .unset, .unset, .unset, .unset, .unset, .unset, .unset, .unset, .unset, .unset, .unset, .unset, .unset, .unset, .unset] [] := by first | (simp [entryFrame, mkF, argsToLocals, Value.category]; done) | rfl
set_option maxRecDepth 65536 in
set_option maxHeartbeats 40000000 in
theorem ev0 (l : Launch) (Z : State) (a0 : Array Value) (hw : ∀ d ∈ tables_1, d.before a0 Z = true) (ws : List Jvm.Cond) (o1 : Addr)  (h0 : Heap) (n0 : Nat) (Z0 : n0 ≤ h0.size) (A_o1 : ag0 Z h0 o1 ([] : List Int32)) (ai6 : n0 ≤ o1) :
    as0 l Z (⟨z_s7, "sort", bq5⟩ : MethodName) jdk_2529_method_4_code 21 none ws ({ frames := 1, cells := 0, slots := 0, locals := 17 } : Room) #[.null, (.ref o1), (.int (0 : Int32)), (.int (0 : Int32)), (.int (0 : Int32))] h0 (fun (v : Option Value) (h : Heap) (L : List Loc) => ∃ ys : List Int32, v = none ∧ Fr n0 L ∧ Keep h0 h [o1] ∧ ag0 Z h o1 ys ∧ ys.length = 0 ∧ ∀ y ∈ ys, ¬ y < (0 : Int32)) := by
  refine aq0 (plainFor_of_name aj1) ?_
  intro p e s m below meth c s₁ P hx hby hml hrt hlk hown hnm hZ X0 e0 hP
  have N0 := Fr.nil n0
  have K0 := Keep.refl h0 [o1]
  have hml' : c.maxLocals = 21 := hml
  refine ar0 (do8 m o1) ?_
  show ac0 p e below P (s₁.setTop (mkF m 0 #[.val .null, .val (.ref o1), .val (.int (0 : Int32)), .val (.int (0 : Int32)), .val (.int (0 : Int32)), .unset, .unset, .unset, .unset, .unset, .unset, .unset, .unset, .unset, .unset, .unset, .unset, .unset, .unset, .unset, .unset] []))
  refine ak0 X0 hx (hb hby bx5) rfl ?_
  refine am0 X0 hx (hb hby by5) (z := (1 : Int32)) rfl ?_
  refine ar2 X0 hx (hb hby bz5) (z := (-1 : Int32)) rfl ?_
  refine ai1 X0 hx (hb hby b6) (l' := #[.val .null, .val (.ref o1), .val (.int (0 : Int32)), .val (.int (0 : Int32)), .val (.int (0 : Int32)), .val (.int (-1 : Int32)), .unset, .unset, .unset, .unset, .unset, .unset, .unset, .unset, .unset, .unset, .unset, .unset, .unset, .unset, .unset]) rfl ?_
  refine ak0 X0 hx (hb hby ba6) rfl ?_
  refine ae0 X0 hx (hb hby bb6) rfl ?_
  refine ar2 X0 hx (hb hby bc6) (z := (0 : Int32)) rfl ?_
  refine ai1 X0 hx (hb hby bc3) (l' := #[.val .null, .val (.ref o1), .val (.int (0 : Int32)), .val (.int (0 : Int32)), .val (.int (0 : Int32)), .val (.int (-1 : Int32)), .val (.int (0 : Int32)), .unset, .unset, .unset, .unset, .unset, .unset, .unset, .unset, .unset, .unset, .unset, .unset, .unset, .unset]) rfl ?_
  refine ak0 X0 hx (hb hby bd3) rfl ?_
  refine ak8 X0 hx (hb hby be3) (z := (65 : Int32)) rfl ?_
  refine ae0 X0 hx (hb hby bf3) rfl ?_
  refine am2 X0 hx (hb hby bg3) (z := (65 : Int32)) rfl ?_
  refine av0 X0 hx (hb hby bh3) (tlt (by decide : (0 : Int32) < (65 : Int32))).2.1 ?_
  refine ae0 X0 hx (hb hby bi3) rfl ?_
  refine am0 X0 hx (hb hby bj3) (z := (1 : Int32)) rfl ?_
  refine an9 X0 hx (hb hby bk3) (z := (0 : Int32)) rfl ?_
  refine ak4 X0 hx (pc' := 46) (hb hby bl3) ((if0 _ _).trans (flt (by decide : ¬ ((0 : Int32) < (0 : Int32)))).2.2.2) ?_
  refine ak0 X0 hx (hb hby bm3) rfl ?_
  refine ak8 X0 hx (hb hby bn3) (z := (44 : Int32)) rfl ?_
  refine av0 X0 hx (hb hby bo3) (tlt (by decide : (0 : Int32) < (44 : Int32))).2.1 ?_
  refine ab0 X0 hx (hb hby bp3) rfl rfl ?_
  refine ae0 X0 hx (hb hby bq3) rfl ?_
  refine ak0 X0 hx (hb hby br3) rfl ?_
  refine af1 X0 hx hZ (y := (⟨z_s7, "insertionSort", "([III)V"⟩ : MethodName)) hown (z_w hw 182 rfl) (z_w hw 183 rfl) (z_w hw 177 rfl) (z_w hw 184 rfl) (eu0 l Z a0 hw [] o1  h0 n0 (Nat.le_trans Z0 K0.1) A_o1 ai6) 0 e0 hml' (argsL := [(.ref o1), (.int (0 : Int32)), (.int (0 : Int32))]) (rest := []) (lenOf ag9 rfl) (hb hby bs3) (fun r1 T1 L1 X1 hQ1 => ?_)
  obtain ⟨ys1, rfl, Nq1, Kq1, As1, hl1, ha1⟩ := hQ1
  have N1 := Fr.app N0 Nq1
  obtain rfl := b7 hl1
  have K1 := Keep.trans K0 Kq1 (allS (Or.inl (List.mem_of_getElem? (i := 0) rfl)) all0)
  show ac0 p e below P (T1.setTop (mkF m 60 #[.val .null, .val (.ref o1), .val (.int (0 : Int32)), .val (.int (0 : Int32)), .val (.int (0 : Int32)), .val (.int (-1 : Int32)), .val (.int (0 : Int32)), .unset, .unset, .unset, .unset, .unset, .unset, .unset, .unset, .unset, .unset, .unset, .unset, .unset, .unset] []))
  refine at1 X1 hx hlk hP hrt (hb hby bt3) (by decide) (by decide) ?_
  have hfin : (fun (v : Option Value) (h : Heap) (L : List Loc) => ∃ ys : List Int32, v = none ∧ Fr n0 L ∧ Keep h0 h [o1] ∧ ag0 Z h o1 ys ∧ ys.length = 0 ∧ ∀ y ∈ ys, ¬ y < (0 : Int32)) none T1.heap _ := ⟨([] : List Int32), rfl, N1, K1, As1, rfl, am3⟩
  exact hfin
theorem bd6 : decode jdk_2529_method_3_code 0 = .ok (.iload_n 3, 1) := by decide +kernel
theorem be6 : decode jdk_2529_method_3_code 1 = .ok (.iload_n 2, 1) := by decide +kernel
theorem bf6 : decode jdk_2529_method_3_code 2 = .ok (.isub, 1) := by decide +kernel
theorem bg6 : decode jdk_2529_method_3_code 3 = .ok (.istore 4, 2) := by decide +kernel
theorem bh6 : decode jdk_2529_method_3_code 5 = .ok (.iload_n 1, 1) := by decide +kernel
theorem bi6 : decode jdk_2529_method_3_code 6 = .ok (.iconst 1, 1) := by decide +kernel
theorem bj6 : decode jdk_2529_method_3_code 7 = .ok (.if_icmp .le 61, 3) := by decide +kernel
theorem bu3 : decode jdk_2529_method_3_code 68 = .ok (.aconst_null, 1) := by decide +kernel
theorem bv3 : decode jdk_2529_method_3_code 69 = .ok (.aload_n 0, 1) := by decide +kernel
theorem bw3 : decode jdk_2529_method_3_code 70 = .ok (.iconst 0, 1) := by decide +kernel
theorem bx3 : decode jdk_2529_method_3_code 71 = .ok (.iload_n 2, 1) := by decide +kernel
theorem by3 : decode jdk_2529_method_3_code 72 = .ok (.iload_n 3, 1) := by decide +kernel
theorem bz3 : decode jdk_2529_method_3_code 73 = .ok (.invokestatic 26, 3) := by decide +kernel
theorem ai2 : parseMethodDescriptor bq5 = some ⟨[(.object "java/util/DualPivotQuicksort$Sorter"), (.array .int), .int, .int, .int], none⟩ := by decide +kernel
theorem ba4 : decode jdk_2529_method_3_code 76 = .ok (.return_, 1) := by decide +kernel
theorem dp8 (m : MethodId) (o0 : Addr) : entryFrame m #[(.ref o0), (.int (0 : Int32)), (.int (0 : Int32)), (.int (0 : Int32))] 7 = mkF m 0 #[.val (.ref o0), .val (.int (0 : Int32)), .val (.int (0 : Int32)), .val (.int (0 : Int32)), .unset, .unset, .unset] [] := by first | (simp [entryFrame, mkF, argsToLocals, Value.category]; done) | rfl
set_option maxRecDepth 65536 in
set_option maxHeartbeats 40000000 in
theorem ew0 (l : Launch) (Z : State) (a0 : Array Value) (hw : ∀ d ∈ tables_1, d.before a0 Z = true) (ws : List Jvm.Cond) (o0 : Addr)  (h0 : Heap) (n0 : Nat) (Z0 : n0 ≤ h0.size) (A_o0 : ag0 Z h0 o0 ([] : List Int32)) (ab1 : n0 ≤ o0) :
    as0 l Z (⟨z_s7, "sort", "([IIII)V"⟩ : MethodName) jdk_2529_method_3_code 7 none ws ({ frames := 2, cells := 0, slots := 0, locals := 49 } : Room) #[(.ref o0), (.int (0 : Int32)), (.int (0 : Int32)), (.int (0 : Int32))] h0 (fun (v : Option Value) (h : Heap) (L : List Loc) => ∃ ys : List Int32, v = none ∧ Fr n0 L ∧ Keep h0 h [o0] ∧ ag0 Z h o0 ys ∧ ys.length = 0 ∧ ∀ y ∈ ys, ¬ y < (0 : Int32)) := by
  refine aq0 (plainFor_of_name aj1) ?_
  intro p e s m below meth c s₁ P hx hby hml hrt hlk hown hnm hZ X0 e0 hP
  have N0 := Fr.nil n0
  have K0 := Keep.refl h0 [o0]
  have hml' : c.maxLocals = 7 := hml
  refine ar0 (dp8 m o0) ?_
  show ac0 p e below P (s₁.setTop (mkF m 0 #[.val (.ref o0), .val (.int (0 : Int32)), .val (.int (0 : Int32)), .val (.int (0 : Int32)), .unset, .unset, .unset] []))
  refine ae0 X0 hx (hb hby bd6) rfl ?_
  refine ae0 X0 hx (hb hby be6) rfl ?_
  refine ar2 X0 hx (hb hby bf6) (z := (0 : Int32)) rfl ?_
  refine ai1 X0 hx (hb hby bg6) (l' := #[.val (.ref o0), .val (.int (0 : Int32)), .val (.int (0 : Int32)), .val (.int (0 : Int32)), .val (.int (0 : Int32)), .unset, .unset]) rfl ?_
  refine ae0 X0 hx (hb hby bh6) rfl ?_
  refine am0 X0 hx (hb hby bi6) (z := (1 : Int32)) rfl ?_
  refine au0 X0 hx (pc' := 68) (hb hby bj6) (flt (by decide : ¬ ((1 : Int32) < (0 : Int32)))).2.2.2 ?_
  refine ai8 X0 hx (hb hby bu3) ?_
  refine ab0 X0 hx (hb hby bv3) rfl rfl ?_
  refine am0 X0 hx (hb hby bw3) (z := (0 : Int32)) rfl ?_
  refine ae0 X0 hx (hb hby bx3) rfl ?_
  refine ae0 X0 hx (hb hby by3) rfl ?_
  refine af1 X0 hx hZ (y := (⟨z_s7, "sort", bq5⟩ : MethodName)) hown (z_w hw 179 rfl) (z_w hw 180 rfl) (z_w hw 177 rfl) (z_w hw 181 rfl) (ev0 l Z a0 hw [] o0  h0 n0 (Nat.le_trans Z0 K0.1) A_o0 ab1) 0 e0 hml' (argsL := [.null, (.ref o0), (.int (0 : Int32)), (.int (0 : Int32)), (.int (0 : Int32))]) (rest := []) (lenOf ai2 rfl) (hb hby bz3) (fun r1 T1 L1 X1 hQ1 => ?_)
  obtain ⟨ys1, rfl, Nq1, Kq1, As1, hl1, ha1⟩ := hQ1
  have N1 := Fr.app N0 Nq1
  obtain rfl := b7 hl1
  have K1 := Keep.trans K0 Kq1 (allS (Or.inl (List.mem_of_getElem? (i := 0) rfl)) all0)
  show ac0 p e below P (T1.setTop (mkF m 76 #[.val (.ref o0), .val (.int (0 : Int32)), .val (.int (0 : Int32)), .val (.int (0 : Int32)), .val (.int (0 : Int32)), .unset, .unset] []))
  refine at1 X1 hx hlk hP hrt (hb hby ba4) (by decide) (by decide) ?_
  have hfin : (fun (v : Option Value) (h : Heap) (L : List Loc) => ∃ ys : List Int32, v = none ∧ Fr n0 L ∧ Keep h0 h [o0] ∧ ag0 Z h o0 ys ∧ ys.length = 0 ∧ ∀ y ∈ ys, ¬ y < (0 : Int32)) none T1.heap _ := ⟨([] : List Int32), rfl, N1, K1, As1, rfl, am3⟩
  exact hfin
theorem bk6 : decode jdk_65_method_2_code 0 = .ok (.aload_n 0, 1) := by decide +kernel
theorem bl6 : decode jdk_65_method_2_code 1 = .ok (.iconst 0, 1) := by decide +kernel
theorem bm6 : decode jdk_65_method_2_code 2 = .ok (.iconst 0, 1) := by decide +kernel
theorem bn6 : decode jdk_65_method_2_code 3 = .ok (.aload_n 0, 1) := by decide +kernel
theorem bo6 : decode jdk_65_method_2_code 4 = .ok (.arraylength, 1) := by decide +kernel
theorem bp6 : decode jdk_65_method_2_code 5 = .ok (.invokestatic 7, 3) := by decide +kernel
theorem am8 : parseMethodDescriptor "([IIII)V" = some ⟨[(.array .int), .int, .int, .int], none⟩ := by decide +kernel
theorem bq6 : decode jdk_65_method_2_code 8 = .ok (.return_, 1) := by decide +kernel
theorem dq8 (m : MethodId) (o0 : Addr) : entryFrame m #[(.ref o0)] 1 = mkF m 0 #[.val (.ref o0)] [] := by first | (simp [entryFrame, mkF, argsToLocals, Value.category]; done) | rfl
set_option maxRecDepth 65536 in
set_option maxHeartbeats 40000000 in
theorem ex0 (l : Launch) (Z : State) (a0 : Array Value) (hw : ∀ d ∈ tables_1, d.before a0 Z = true) (ws : List Jvm.Cond) (o0 : Addr)  (h0 : Heap) (n0 : Nat) (Z0 : n0 ≤ h0.size) (A_o0 : ag0 Z h0 o0 ([] : List Int32)) (ab1 : n0 ≤ o0) :
    as0 l Z (⟨z_s5, "sort", "([I)V"⟩ : MethodName) jdk_65_method_2_code 1 none ws ({ frames := 3, cells := 0, slots := 0, locals := 67 } : Room) #[(.ref o0)] h0 (fun (v : Option Value) (h : Heap) (L : List Loc) => ∃ ys : List Int32, v = none ∧ Fr n0 L ∧ Keep h0 h [o0] ∧ ag0 Z h o0 ys ∧ ys.length = 0 ∧ ∀ y ∈ ys, ¬ y < (0 : Int32)) := by
  refine aq0 (plainFor_of_name az0) ?_
  intro p e s m below meth c s₁ P hx hby hml hrt hlk hown hnm hZ X0 e0 hP
  have N0 := Fr.nil n0
  have K0 := Keep.refl h0 [o0]
  have hml' : c.maxLocals = 1 := hml
  refine ar0 (dq8 m o0) ?_
  show ac0 p e below P (s₁.setTop (mkF m 0 #[.val (.ref o0)] []))
  refine ab0 X0 hx (hb hby bk6) rfl rfl ?_
  refine am0 X0 hx (hb hby bl6) (z := (0 : Int32)) rfl ?_
  refine am0 X0 hx (hb hby bm6) (z := (0 : Int32)) rfl ?_
  refine ab0 X0 hx (hb hby bn6) rfl rfl ?_
  refine ah1 X0 hx hZ e0 A_o0 (z := (0 : Int32)) rfl (hb hby bo6) ?_
  refine af1 X0 hx hZ (y := (⟨z_s7, "sort", "([IIII)V"⟩ : MethodName)) hown (z_w hw 175 rfl) (z_w hw 176 rfl) (z_w hw 177 rfl) (z_w hw 178 rfl) (ew0 l Z a0 hw [] o0  h0 n0 (Nat.le_trans Z0 K0.1) A_o0 ab1) 0 e0 hml' (argsL := [(.ref o0), (.int (0 : Int32)), (.int (0 : Int32)), (.int (0 : Int32))]) (rest := []) (lenOf am8 rfl) (hb hby bp6) (fun r1 T1 L1 X1 hQ1 => ?_)
  obtain ⟨ys1, rfl, Nq1, Kq1, As1, hl1, ha1⟩ := hQ1
  have N1 := Fr.app N0 Nq1
  obtain rfl := b7 hl1
  have K1 := Keep.trans K0 Kq1 (allS (Or.inl (List.mem_of_getElem? (i := 0) rfl)) all0)
  show ac0 p e below P (T1.setTop (mkF m 8 #[.val (.ref o0)] []))
  refine at1 X1 hx hlk hP hrt (hb hby bq6) (by decide) (by decide) ?_
  have hfin : (fun (v : Option Value) (h : Heap) (L : List Loc) => ∃ ys : List Int32, v = none ∧ Fr n0 L ∧ Keep h0 h [o0] ∧ ag0 Z h o0 ys ∧ ys.length = 0 ∧ ∀ y ∈ ys, ¬ y < (0 : Int32)) none T1.heap _ := ⟨([] : List Int32), rfl, N1, K1, As1, rfl, am3⟩
  exact hfin
theorem dr8 (m : MethodId) (o0 : Addr) : entryFrame m #[(.ref o0), (.int (0 : Int32)), (.int (1 : Int32))] 6 = mkF m 0 #[.val (.ref o0), .val (.int (0 : Int32)), .val (.int (1 : Int32)), .unset, .unset, .unset] [] := by first | (simp [entryFrame, mkF, argsToLocals, Value.category]; done) | rfl
set_option maxRecDepth 65536 in
set_option maxHeartbeats 40000000 in
theorem ey0 (l : Launch) (Z : State) (a0 : Array Value) (hw : ∀ d ∈ tables_1, d.before a0 Z = true) (ws : List Jvm.Cond) (o0 : Addr) (c0 : Int32) (h0 : Heap) (n0 : Nat) (Z0 : n0 ≤ h0.size) (A_o0 : ag0 Z h0 o0 [c0]) (ab1 : n0 ≤ o0) (hn0 : ¬ (c0 < (0 : Int32))) :
    as0 l Z (⟨z_s7, "insertionSort", "([III)V"⟩ : MethodName) jdk_2529_method_6_code 6 none ws ({ frames := 0, cells := 0, slots := 0, locals := 0 } : Room) #[(.ref o0), (.int (0 : Int32)), (.int (1 : Int32))] h0 (fun (v : Option Value) (h : Heap) (L : List Loc) => ∃ ys : List Int32, v = none ∧ Fr n0 L ∧ Keep h0 h [o0] ∧ ag0 Z h o0 ys ∧ ys.length = 1 ∧ ∀ y ∈ ys, ¬ y < (0 : Int32)) := by
  refine aq0 (plainFor_of_name aj1) ?_
  intro p e s m below meth c s₁ P hx hby hml hrt hlk hown hnm hZ X0 e0 hP
  have N0 := Fr.nil n0
  have K0 := Keep.refl h0 [o0]
  have hml' : c.maxLocals = 6 := hml
  refine ar0 (dr8 m o0) ?_
  show ac0 p e below P (s₁.setTop (mkF m 0 #[.val (.ref o0), .val (.int (0 : Int32)), .val (.int (1 : Int32)), .unset, .unset, .unset] []))
  refine ae0 X0 hx (hb hby bv5) rfl ?_
  refine ai1 X0 hx (hb hby bw5) (l' := #[.val (.ref o0), .val (.int (0 : Int32)), .val (.int (1 : Int32)), .unset, .val (.int (0 : Int32)), .unset]) rfl ?_
  refine aq1 X0 hx (hb hby aj6) rfl (l' := #[.val (.ref o0), .val (.int (0 : Int32)), .val (.int (1 : Int32)), .unset, .val (.int (1 : Int32)), .unset]) rfl ?_
  refine ak0 X0 hx (hb hby ak6) rfl ?_
  refine ae0 X0 hx (hb hby al6) rfl ?_
  refine au0 X0 hx (pc' := 67) (hb hby am6) (flt (by decide : ¬ ((1 : Int32) < (1 : Int32)))).2.1 ?_
  refine at1 X0 hx hlk hP hrt (hb hby bs0) (by decide) (by decide) ?_
  have hfin : (fun (v : Option Value) (h : Heap) (L : List Loc) => ∃ ys : List Int32, v = none ∧ Fr n0 L ∧ Keep h0 h [o0] ∧ ag0 Z h o0 ys ∧ ys.length = 1 ∧ ∀ y ∈ ys, ¬ y < (0 : Int32)) none h0 _ := ⟨[c0], rfl, N0, K0, A_o0, rfl, (aa2 hn0 am3)⟩
  rw [e0]; exact hfin
theorem ds8 (m : MethodId) (o1 : Addr) : entryFrame m #[.null, (.ref o1), (.int (0 : Int32)), (.int (0 : Int32)), (.int (1 : Int32))] 21 = mkF m 0 #[.val .null, .val (.ref o1), .val (.int (0 : Int32)), .val (.int (0 : Int32)), .val (.int (1 : Int32)), .unset, .unset, .unset, .unset, .unset, .unset, .unset, .unset, .unset, .unset, .unset, .unset, .unset, .unset, .unset, .unset] [] := by first | (simp [entryFrame, mkF, argsToLocals, Value.category]; done) | rfl
set_option maxRecDepth 65536 in
set_option maxHeartbeats 40000000 in
theorem ez0 (l : Launch) (Z : State) (a0 : Array Value) (hw : ∀ d ∈ tables_1, d.before a0 Z = true) (ws : List Jvm.Cond) (o1 : Addr) (c0 : Int32) (h0 : Heap) (n0 : Nat) (Z0 : n0 ≤ h0.size) (A_o1 : ag0 Z h0 o1 [c0]) (ai6 : n0 ≤ o1) (hn0 : ¬ (c0 < (0 : Int32))) :
    as0 l Z (⟨z_s7, "sort", bq5⟩ : MethodName) jdk_2529_method_4_code 21 none ws ({ frames := 1, cells := 0, slots := 0, locals := 17 } : Room) #[.null, (.ref o1), (.int (0 : Int32)), (.int (0 : Int32)), (.int (1 : Int32))] h0 (fun (v : Option Value) (h : Heap) (L : List Loc) => ∃ ys : List Int32, v = none ∧ Fr n0 L ∧ Keep h0 h [o1] ∧ ag0 Z h o1 ys ∧ ys.length = 1 ∧ ∀ y ∈ ys, ¬ y < (0 : Int32)) := by
  refine aq0 (plainFor_of_name aj1) ?_
  intro p e s m below meth c s₁ P hx hby hml hrt hlk hown hnm hZ X0 e0 hP
  have N0 := Fr.nil n0
  have K0 := Keep.refl h0 [o1]
  have hml' : c.maxLocals = 21 := hml
  refine ar0 (ds8 m o1) ?_
  show ac0 p e below P (s₁.setTop (mkF m 0 #[.val .null, .val (.ref o1), .val (.int (0 : Int32)), .val (.int (0 : Int32)), .val (.int (1 : Int32)), .unset, .unset, .unset, .unset, .unset, .unset, .unset, .unset, .unset, .unset, .unset, .unset, .unset, .unset, .unset, .unset] []))
  refine ak0 X0 hx (hb hby bx5) rfl ?_
  refine am0 X0 hx (hb hby by5) (z := (1 : Int32)) rfl ?_
  refine ar2 X0 hx (hb hby bz5) (z := (0 : Int32)) rfl ?_
  refine ai1 X0 hx (hb hby b6) (l' := #[.val .null, .val (.ref o1), .val (.int (0 : Int32)), .val (.int (0 : Int32)), .val (.int (1 : Int32)), .val (.int (0 : Int32)), .unset, .unset, .unset, .unset, .unset, .unset, .unset, .unset, .unset, .unset, .unset, .unset, .unset, .unset, .unset]) rfl ?_
  refine ak0 X0 hx (hb hby ba6) rfl ?_
  refine ae0 X0 hx (hb hby bb6) rfl ?_
  refine ar2 X0 hx (hb hby bc6) (z := (1 : Int32)) rfl ?_
  refine ai1 X0 hx (hb hby bc3) (l' := #[.val .null, .val (.ref o1), .val (.int (0 : Int32)), .val (.int (0 : Int32)), .val (.int (1 : Int32)), .val (.int (0 : Int32)), .val (.int (1 : Int32)), .unset, .unset, .unset, .unset, .unset, .unset, .unset, .unset, .unset, .unset, .unset, .unset, .unset, .unset]) rfl ?_
  refine ak0 X0 hx (hb hby bd3) rfl ?_
  refine ak8 X0 hx (hb hby be3) (z := (65 : Int32)) rfl ?_
  refine ae0 X0 hx (hb hby bf3) rfl ?_
  refine am2 X0 hx (hb hby bg3) (z := (65 : Int32)) rfl ?_
  refine av0 X0 hx (hb hby bh3) (tlt (by decide : (1 : Int32) < (65 : Int32))).2.1 ?_
  refine ae0 X0 hx (hb hby bi3) rfl ?_
  refine am0 X0 hx (hb hby bj3) (z := (1 : Int32)) rfl ?_
  refine an9 X0 hx (hb hby bk3) (z := (0 : Int32)) rfl ?_
  refine ak4 X0 hx (pc' := 46) (hb hby bl3) ((if0 _ _).trans (flt (by decide : ¬ ((0 : Int32) < (0 : Int32)))).2.2.2) ?_
  refine ak0 X0 hx (hb hby bm3) rfl ?_
  refine ak8 X0 hx (hb hby bn3) (z := (44 : Int32)) rfl ?_
  refine av0 X0 hx (hb hby bo3) (tlt (by decide : (1 : Int32) < (44 : Int32))).2.1 ?_
  refine ab0 X0 hx (hb hby bp3) rfl rfl ?_
  refine ae0 X0 hx (hb hby bq3) rfl ?_
  refine ak0 X0 hx (hb hby br3) rfl ?_
  refine af1 X0 hx hZ (y := (⟨z_s7, "insertionSort", "([III)V"⟩ : MethodName)) hown (z_w hw 182 rfl) (z_w hw 183 rfl) (z_w hw 177 rfl) (z_w hw 184 rfl) (ey0 l Z a0 hw [] o1 c0 h0 n0 (Nat.le_trans Z0 K0.1) A_o1 ai6 hn0) 0 e0 hml' (argsL := [(.ref o1), (.int (0 : Int32)), (.int (1 : Int32))]) (rest := []) (lenOf ag9 rfl) (hb hby bs3) (fun r1 T1 L1 X1 hQ1 => ?_)
  obtain ⟨ys1, rfl, Nq1, Kq1, As1, hl1, ha1⟩ := hQ1
  have N1 := Fr.app N0 Nq1
  obtain ⟨y0_1, rfl⟩ := ba7 hl1
  have K1 := Keep.trans K0 Kq1 (allS (Or.inl (List.mem_of_getElem? (i := 0) rfl)) all0)
  have ap3 : ¬ y0_1 < (0 : Int32) := ha1 _ (by simp)
  show ac0 p e below P (T1.setTop (mkF m 60 #[.val .null, .val (.ref o1), .val (.int (0 : Int32)), .val (.int (0 : Int32)), .val (.int (1 : Int32)), .val (.int (0 : Int32)), .val (.int (1 : Int32)), .unset, .unset, .unset, .unset, .unset, .unset, .unset, .unset, .unset, .unset, .unset, .unset, .unset, .unset] []))
  refine at1 X1 hx hlk hP hrt (hb hby bt3) (by decide) (by decide) ?_
  have hfin : (fun (v : Option Value) (h : Heap) (L : List Loc) => ∃ ys : List Int32, v = none ∧ Fr n0 L ∧ Keep h0 h [o1] ∧ ag0 Z h o1 ys ∧ ys.length = 1 ∧ ∀ y ∈ ys, ¬ y < (0 : Int32)) none T1.heap _ := ⟨[y0_1], rfl, N1, K1, As1, rfl, (aa2 ap3 am3)⟩
  exact hfin
theorem dt8 (m : MethodId) (o0 : Addr) : entryFrame m #[(.ref o0), (.int (0 : Int32)), (.int (0 : Int32)), (.int (1 : Int32))] 7 = mkF m 0 #[.val (.ref o0), .val (.int (0 : Int32)), .val (.int (0 : Int32)), .val (.int (1 : Int32)), .unset, .unset, .unset] [] := by first | (simp [entryFrame, mkF, argsToLocals, Value.category]; done) | rfl
set_option maxRecDepth 65536 in
set_option maxHeartbeats 40000000 in
theorem ea1 (l : Launch) (Z : State) (a0 : Array Value) (hw : ∀ d ∈ tables_1, d.before a0 Z = true) (ws : List Jvm.Cond) (o0 : Addr) (c0 : Int32) (h0 : Heap) (n0 : Nat) (Z0 : n0 ≤ h0.size) (A_o0 : ag0 Z h0 o0 [c0]) (ab1 : n0 ≤ o0) (hn0 : ¬ (c0 < (0 : Int32))) :
    as0 l Z (⟨z_s7, "sort", "([IIII)V"⟩ : MethodName) jdk_2529_method_3_code 7 none ws ({ frames := 2, cells := 0, slots := 0, locals := 49 } : Room) #[(.ref o0), (.int (0 : Int32)), (.int (0 : Int32)), (.int (1 : Int32))] h0 (fun (v : Option Value) (h : Heap) (L : List Loc) => ∃ ys : List Int32, v = none ∧ Fr n0 L ∧ Keep h0 h [o0] ∧ ag0 Z h o0 ys ∧ ys.length = 1 ∧ ∀ y ∈ ys, ¬ y < (0 : Int32)) := by
  refine aq0 (plainFor_of_name aj1) ?_
  intro p e s m below meth c s₁ P hx hby hml hrt hlk hown hnm hZ X0 e0 hP
  have N0 := Fr.nil n0
  have K0 := Keep.refl h0 [o0]
  have hml' : c.maxLocals = 7 := hml
  refine ar0 (dt8 m o0) ?_
  show ac0 p e below P (s₁.setTop (mkF m 0 #[.val (.ref o0), .val (.int (0 : Int32)), .val (.int (0 : Int32)), .val (.int (1 : Int32)), .unset, .unset, .unset] []))
  refine ae0 X0 hx (hb hby bd6) rfl ?_
  refine ae0 X0 hx (hb hby be6) rfl ?_
  refine ar2 X0 hx (hb hby bf6) (z := (1 : Int32)) rfl ?_
  refine ai1 X0 hx (hb hby bg6) (l' := #[.val (.ref o0), .val (.int (0 : Int32)), .val (.int (0 : Int32)), .val (.int (1 : Int32)), .val (.int (1 : Int32)), .unset, .unset]) rfl ?_
  refine ae0 X0 hx (hb hby bh6) rfl ?_
  refine am0 X0 hx (hb hby bi6) (z := (1 : Int32)) rfl ?_
  refine au0 X0 hx (pc' := 68) (hb hby bj6) (flt (by decide : ¬ ((1 : Int32) < (0 : Int32)))).2.2.2 ?_
  refine ai8 X0 hx (hb hby bu3) ?_
  refine ab0 X0 hx (hb hby bv3) rfl rfl ?_
  refine am0 X0 hx (hb hby bw3) (z := (0 : Int32)) rfl ?_
  refine ae0 X0 hx (hb hby bx3) rfl ?_
  refine ae0 X0 hx (hb hby by3) rfl ?_
  refine af1 X0 hx hZ (y := (⟨z_s7, "sort", bq5⟩ : MethodName)) hown (z_w hw 179 rfl) (z_w hw 180 rfl) (z_w hw 177 rfl) (z_w hw 181 rfl) (ez0 l Z a0 hw [] o0 c0 h0 n0 (Nat.le_trans Z0 K0.1) A_o0 ab1 hn0) 0 e0 hml' (argsL := [.null, (.ref o0), (.int (0 : Int32)), (.int (0 : Int32)), (.int (1 : Int32))]) (rest := []) (lenOf ai2 rfl) (hb hby bz3) (fun r1 T1 L1 X1 hQ1 => ?_)
  obtain ⟨ys1, rfl, Nq1, Kq1, As1, hl1, ha1⟩ := hQ1
  have N1 := Fr.app N0 Nq1
  obtain ⟨y0_1, rfl⟩ := ba7 hl1
  have K1 := Keep.trans K0 Kq1 (allS (Or.inl (List.mem_of_getElem? (i := 0) rfl)) all0)
  have ap3 : ¬ y0_1 < (0 : Int32) := ha1 _ (by simp)
  show ac0 p e below P (T1.setTop (mkF m 76 #[.val (.ref o0), .val (.int (0 : Int32)), .val (.int (0 : Int32)), .val (.int (1 : Int32)), .val (.int (1 : Int32)), .unset, .unset] []))
  refine at1 X1 hx hlk hP hrt (hb hby ba4) (by decide) (by decide) ?_
  have hfin : (fun (v : Option Value) (h : Heap) (L : List Loc) => ∃ ys : List Int32, v = none ∧ Fr n0 L ∧ Keep h0 h [o0] ∧ ag0 Z h o0 ys ∧ ys.length = 1 ∧ ∀ y ∈ ys, ¬ y < (0 : Int32)) none T1.heap _ := ⟨[y0_1], rfl, N1, K1, As1, rfl, (aa2 ap3 am3)⟩
  exact hfin
theorem du8 (m : MethodId) (o0 : Addr) : entryFrame m #[(.ref o0)] 1 = mkF m 0 #[.val (.ref o0)] [] := by first | (simp [entryFrame, mkF, argsToLocals, Value.category]; done) | rfl
set_option maxRecDepth 65536 in
set_option maxHeartbeats 40000000 in
theorem eb1 (l : Launch) (Z : State) (a0 : Array Value) (hw : ∀ d ∈ tables_1, d.before a0 Z = true) (ws : List Jvm.Cond) (o0 : Addr) (c0 : Int32) (h0 : Heap) (n0 : Nat) (Z0 : n0 ≤ h0.size) (A_o0 : ag0 Z h0 o0 [c0]) (ab1 : n0 ≤ o0) (hn0 : ¬ (c0 < (0 : Int32))) :
    as0 l Z (⟨z_s5, "sort", "([I)V"⟩ : MethodName) jdk_65_method_2_code 1 none ws ({ frames := 3, cells := 0, slots := 0, locals := 67 } : Room) #[(.ref o0)] h0 (fun (v : Option Value) (h : Heap) (L : List Loc) => ∃ ys : List Int32, v = none ∧ Fr n0 L ∧ Keep h0 h [o0] ∧ ag0 Z h o0 ys ∧ ys.length = 1 ∧ ∀ y ∈ ys, ¬ y < (0 : Int32)) := by
  refine aq0 (plainFor_of_name az0) ?_
  intro p e s m below meth c s₁ P hx hby hml hrt hlk hown hnm hZ X0 e0 hP
  have N0 := Fr.nil n0
  have K0 := Keep.refl h0 [o0]
  have hml' : c.maxLocals = 1 := hml
  refine ar0 (du8 m o0) ?_
  show ac0 p e below P (s₁.setTop (mkF m 0 #[.val (.ref o0)] []))
  refine ab0 X0 hx (hb hby bk6) rfl rfl ?_
  refine am0 X0 hx (hb hby bl6) (z := (0 : Int32)) rfl ?_
  refine am0 X0 hx (hb hby bm6) (z := (0 : Int32)) rfl ?_
  refine ab0 X0 hx (hb hby bn6) rfl rfl ?_
  refine ah1 X0 hx hZ e0 A_o0 (z := (1 : Int32)) rfl (hb hby bo6) ?_
  refine af1 X0 hx hZ (y := (⟨z_s7, "sort", "([IIII)V"⟩ : MethodName)) hown (z_w hw 175 rfl) (z_w hw 176 rfl) (z_w hw 177 rfl) (z_w hw 178 rfl) (ea1 l Z a0 hw [] o0 c0 h0 n0 (Nat.le_trans Z0 K0.1) A_o0 ab1 hn0) 0 e0 hml' (argsL := [(.ref o0), (.int (0 : Int32)), (.int (0 : Int32)), (.int (1 : Int32))]) (rest := []) (lenOf am8 rfl) (hb hby bp6) (fun r1 T1 L1 X1 hQ1 => ?_)
  obtain ⟨ys1, rfl, Nq1, Kq1, As1, hl1, ha1⟩ := hQ1
  have N1 := Fr.app N0 Nq1
  obtain ⟨y0_1, rfl⟩ := ba7 hl1
  have K1 := Keep.trans K0 Kq1 (allS (Or.inl (List.mem_of_getElem? (i := 0) rfl)) all0)
  have ap3 : ¬ y0_1 < (0 : Int32) := ha1 _ (by simp)
  show ac0 p e below P (T1.setTop (mkF m 8 #[.val (.ref o0)] []))
  refine at1 X1 hx hlk hP hrt (hb hby bq6) (by decide) (by decide) ?_
  have hfin : (fun (v : Option Value) (h : Heap) (L : List Loc) => ∃ ys : List Int32, v = none ∧ Fr n0 L ∧ Keep h0 h [o0] ∧ ag0 Z h o0 ys ∧ ys.length = 1 ∧ ∀ y ∈ ys, ¬ y < (0 : Int32)) none T1.heap _ := ⟨[y0_1], rfl, N1, K1, As1, rfl, (aa2 ap3 am3)⟩
  exact hfin
theorem bt0 : decode jdk_2529_method_6_code 12 = .ok (.aload_n 0, 1) := by decide +kernel
theorem bu0 : decode jdk_2529_method_6_code 13 = .ok (.iload 4, 2) := by decide +kernel
theorem bv0 : decode jdk_2529_method_6_code 15 = .ok (.dup, 1) := by decide +kernel
theorem bw0 : decode jdk_2529_method_6_code 16 = .ok (.istore_n 3, 1) := by decide +kernel
theorem bx0 : decode jdk_2529_method_6_code 17 = .ok (.iaload, 1) := by decide +kernel
theorem by0 : decode jdk_2529_method_6_code 18 = .ok (.istore 5, 2) := by decide +kernel
theorem bz0 : decode jdk_2529_method_6_code 20 = .ok (.iload 5, 2) := by decide +kernel
theorem ba1 : decode jdk_2529_method_6_code 22 = .ok (.aload_n 0, 1) := by decide +kernel
theorem bb1 : decode jdk_2529_method_6_code 23 = .ok (.iload_n 3, 1) := by decide +kernel
theorem bc1 : decode jdk_2529_method_6_code 24 = .ok (.iconst 1, 1) := by decide +kernel
theorem bd1 : decode jdk_2529_method_6_code 25 = .ok (.isub, 1) := by decide +kernel
theorem be1 : decode jdk_2529_method_6_code 26 = .ok (.iaload, 1) := by decide +kernel
theorem aq5 : decode jdk_2529_method_6_code 27 = .ok (.if_icmp .ge 37, 3) := by decide +kernel
theorem af4 : decode jdk_2529_method_6_code 30 = .ok (.iinc 3 (-1), 3) := by decide +kernel
theorem ag4 : decode jdk_2529_method_6_code 33 = .ok (.iload_n 3, 1) := by decide +kernel
theorem ah4 : decode jdk_2529_method_6_code 34 = .ok (.iload_n 1, 1) := by decide +kernel
theorem ai4 : decode jdk_2529_method_6_code 35 = .ok (.if_icmp .lt 22, 3) := by decide +kernel
theorem ao6 : decode jdk_2529_method_6_code 38 = .ok (.iload 5, 2) := by decide +kernel
theorem ap6 : decode jdk_2529_method_6_code 40 = .ok (.aload_n 0, 1) := by decide +kernel
theorem aq6 : decode jdk_2529_method_6_code 41 = .ok (.iload_n 3, 1) := by decide +kernel
theorem ar6 : decode jdk_2529_method_6_code 42 = .ok (.iaload, 1) := by decide +kernel
theorem as4 : decode jdk_2529_method_6_code 43 = .ok (.if_icmp .ge 14, 3) := by decide +kernel
theorem as6 : decode jdk_2529_method_6_code 46 = .ok (.aload_n 0, 1) := by decide +kernel
theorem at6 : decode jdk_2529_method_6_code 47 = .ok (.iload_n 3, 1) := by decide +kernel
theorem au6 : decode jdk_2529_method_6_code 48 = .ok (.iconst 1, 1) := by decide +kernel
theorem av6 : decode jdk_2529_method_6_code 49 = .ok (.iadd, 1) := by decide +kernel
theorem aw6 : decode jdk_2529_method_6_code 50 = .ok (.aload_n 0, 1) := by decide +kernel
theorem ax6 : decode jdk_2529_method_6_code 51 = .ok (.iload_n 3, 1) := by decide +kernel
theorem ay6 : decode jdk_2529_method_6_code 52 = .ok (.iaload, 1) := by decide +kernel
theorem az6 : decode jdk_2529_method_6_code 53 = .ok (.iastore, 1) := by decide +kernel
theorem a7 : decode jdk_2529_method_6_code 54 = .ok (.goto (-24), 3) := by decide +kernel
theorem aa7 : decode jdk_2529_method_6_code 57 = .ok (.aload_n 0, 1) := by decide +kernel
theorem ab7 : decode jdk_2529_method_6_code 58 = .ok (.iload_n 3, 1) := by decide +kernel
theorem ac7 : decode jdk_2529_method_6_code 59 = .ok (.iconst 1, 1) := by decide +kernel
theorem ad7 : decode jdk_2529_method_6_code 60 = .ok (.iadd, 1) := by decide +kernel
theorem ae7 : decode jdk_2529_method_6_code 61 = .ok (.iload 5, 2) := by decide +kernel
theorem af7 : decode jdk_2529_method_6_code 63 = .ok (.iastore, 1) := by decide +kernel
theorem aj4 : decode jdk_2529_method_6_code 64 = .ok (.goto (-61), 3) := by decide +kernel
theorem dv8 (m : MethodId) (o0 : Addr) : entryFrame m #[(.ref o0), (.int (0 : Int32)), (.int (2 : Int32))] 6 = mkF m 0 #[.val (.ref o0), .val (.int (0 : Int32)), .val (.int (2 : Int32)), .unset, .unset, .unset] [] := by first | (simp [entryFrame, mkF, argsToLocals, Value.category]; done) | rfl
set_option maxRecDepth 65536 in
set_option maxHeartbeats 40000000 in
theorem ec1 (l : Launch) (Z : State) (a0 : Array Value) (hw : ∀ d ∈ tables_1, d.before a0 Z = true) (ws : List Jvm.Cond) (o0 : Addr) (c0 : Int32) (c1 : Int32) (h0 : Heap) (n0 : Nat) (Z0 : n0 ≤ h0.size) (A_o0 : ag0 Z h0 o0 [c0, c1]) (ab1 : n0 ≤ o0) (hn0 : ¬ (c0 < (0 : Int32))) (hn1 : ¬ (c1 < (0 : Int32))) :
    as0 l Z (⟨z_s7, "insertionSort", "([III)V"⟩ : MethodName) jdk_2529_method_6_code 6 none ws ({ frames := 0, cells := 0, slots := 0, locals := 0 } : Room) #[(.ref o0), (.int (0 : Int32)), (.int (2 : Int32))] h0 (fun (v : Option Value) (h : Heap) (L : List Loc) => ∃ ys : List Int32, v = none ∧ Fr n0 L ∧ Keep h0 h [o0] ∧ ag0 Z h o0 ys ∧ ys.length = 2 ∧ ∀ y ∈ ys, ¬ y < (0 : Int32)) := by
  refine aq0 (plainFor_of_name aj1) ?_
  intro p e s m below meth c s₁ P hx hby hml hrt hlk hown hnm hZ X0 e0 hP
  have N0 := Fr.nil n0
  have K0 := Keep.refl h0 [o0]
  have hml' : c.maxLocals = 6 := hml
  refine ar0 (dv8 m o0) ?_
  show ac0 p e below P (s₁.setTop (mkF m 0 #[.val (.ref o0), .val (.int (0 : Int32)), .val (.int (2 : Int32)), .unset, .unset, .unset] []))
  refine ae0 X0 hx (hb hby bv5) rfl ?_
  refine ai1 X0 hx (hb hby bw5) (l' := #[.val (.ref o0), .val (.int (0 : Int32)), .val (.int (2 : Int32)), .unset, .val (.int (0 : Int32)), .unset]) rfl ?_
  refine aq1 X0 hx (hb hby aj6) rfl (l' := #[.val (.ref o0), .val (.int (0 : Int32)), .val (.int (2 : Int32)), .unset, .val (.int (1 : Int32)), .unset]) rfl ?_
  refine ak0 X0 hx (hb hby ak6) rfl ?_
  refine ae0 X0 hx (hb hby al6) rfl ?_
  refine av0 X0 hx (hb hby am6) (tlt (by decide : (1 : Int32) < (2 : Int32))).2.1 ?_
  refine ab0 X0 hx (hb hby bt0) rfl rfl ?_
  refine ak0 X0 hx (hb hby bu0) rfl ?_
  refine an6 X0 hx (hb hby bv0) rfl ?_
  refine aj2 X0 hx (hb hby bw0) (l' := #[.val (.ref o0), .val (.int (0 : Int32)), .val (.int (2 : Int32)), .val (.int (1 : Int32)), .val (.int (1 : Int32)), .unset]) rfl ?_
  refine al1 X0 hx hZ e0 A_o0 (j := (1 : Int32)) (v := c1) (i := 1) (by decide) rfl (hb hby bx0) ?_
  refine ai1 X0 hx (hb hby by0) (l' := #[.val (.ref o0), .val (.int (0 : Int32)), .val (.int (2 : Int32)), .val (.int (1 : Int32)), .val (.int (1 : Int32)), .val (.int c1)]) rfl ?_
  refine ak0 X0 hx (hb hby bz0) rfl ?_
  refine ab0 X0 hx (hb hby ba1) rfl rfl ?_
  refine ae0 X0 hx (hb hby bb1) rfl ?_
  refine am0 X0 hx (hb hby bc1) (z := (1 : Int32)) rfl ?_
  refine ar2 X0 hx (hb hby bd1) (z := (0 : Int32)) rfl ?_
  refine al1 X0 hx hZ e0 A_o0 (j := (0 : Int32)) (v := c0) (i := 0) (by decide) rfl (hb hby be1) ?_
  by_cases hc1 : c1 < c0
  · refine av0 X0 hx (hb hby aq5) (tlt hc1).2.1 ?_
    refine aq1 X0 hx (hb hby af4) rfl (l' := #[.val (.ref o0), .val (.int (0 : Int32)), .val (.int (2 : Int32)), .val (.int (0 : Int32)), .val (.int (1 : Int32)), .val (.int c1)]) rfl ?_
    refine ae0 X0 hx (hb hby ag4) rfl ?_
    refine ae0 X0 hx (hb hby ah4) rfl ?_
    refine av0 X0 hx (hb hby ai4) (flt (by decide : ¬ ((0 : Int32) < (0 : Int32)))).1 ?_
    refine ak0 X0 hx (hb hby ao6) rfl ?_
    refine ab0 X0 hx (hb hby ap6) rfl rfl ?_
    refine ae0 X0 hx (hb hby aq6) rfl ?_
    refine al1 X0 hx hZ e0 A_o0 (j := (0 : Int32)) (v := c0) (i := 0) (by decide) rfl (hb hby ar6) ?_
    refine av0 X0 hx (hb hby as4) (tlt hc1).2.1 ?_
    refine ab0 X0 hx (hb hby as6) rfl rfl ?_
    refine ae0 X0 hx (hb hby at6) rfl ?_
    refine am0 X0 hx (hb hby au6) (z := (1 : Int32)) rfl ?_
    refine am2 X0 hx (hb hby av6) (z := (1 : Int32)) rfl ?_
    refine ab0 X0 hx (hb hby aw6) rfl rfl ?_
    refine ae0 X0 hx (hb hby ax6) rfl ?_
    refine al1 X0 hx hZ e0 A_o0 (j := (0 : Int32)) (v := c0) (i := 0) (by decide) rfl (hb hby ay6) ?_
    refine ae2 X0 hx hZ e0 A_o0 (j := (1 : Int32)) (v := c0) (i := 1) (by decide) (by show (1 : Nat) < 2; decide) (hb hby az6) (fun T2 h2 X2 e2 W2 B2 => ?_)
    have A2 : ag0 Z h2 o0 [c0, c0] := B2
    have N2 := Fr.snoc X2 N0 ab1
    have K2 := Keep.wr K0 W2 (Or.inl (List.mem_of_getElem? (i := 0) rfl))
    refine am1 X2 hx (pc' := 30) (hb hby a7) ?_
    refine aq1 X2 hx (hb hby af4) rfl (l' := #[.val (.ref o0), .val (.int (0 : Int32)), .val (.int (2 : Int32)), .val (.int (-1 : Int32)), .val (.int (1 : Int32)), .val (.int c1)]) rfl ?_
    refine ae0 X2 hx (hb hby ag4) rfl ?_
    refine ae0 X2 hx (hb hby ah4) rfl ?_
    refine au0 X2 hx (pc' := 57) (hb hby ai4) (tlt (by decide : (-1 : Int32) < (0 : Int32))).1 ?_
    refine ab0 X2 hx (hb hby aa7) rfl rfl ?_
    refine ae0 X2 hx (hb hby ab7) rfl ?_
    refine am0 X2 hx (hb hby ac7) (z := (1 : Int32)) rfl ?_
    refine am2 X2 hx (hb hby ad7) (z := (0 : Int32)) rfl ?_
    refine ak0 X2 hx (hb hby ae7) rfl ?_
    refine ae2 X2 hx hZ e2 A2 (j := (0 : Int32)) (v := c1) (i := 0) (by decide) (by show (0 : Nat) < 2; decide) (hb hby af7) (fun T3 h3 X3 e3 W3 B3 => ?_)
    have A3 : ag0 Z h3 o0 [c1, c0] := B3
    have N3 := Fr.snoc X3 N2 ab1
    have K3 := Keep.wr K2 W3 (Or.inl (List.mem_of_getElem? (i := 0) rfl))
    refine am1 X3 hx (pc' := 3) (hb hby aj4) ?_
    refine aq1 X3 hx (hb hby aj6) rfl (l' := #[.val (.ref o0), .val (.int (0 : Int32)), .val (.int (2 : Int32)), .val (.int (-1 : Int32)), .val (.int (2 : Int32)), .val (.int c1)]) rfl ?_
    refine ak0 X3 hx (hb hby ak6) rfl ?_
    refine ae0 X3 hx (hb hby al6) rfl ?_
    refine au0 X3 hx (pc' := 67) (hb hby am6) (flt (by decide : ¬ ((2 : Int32) < (2 : Int32)))).2.1 ?_
    refine at1 X3 hx hlk hP hrt (hb hby bs0) (by decide) (by decide) ?_
    have hfin : (fun (v : Option Value) (h : Heap) (L : List Loc) => ∃ ys : List Int32, v = none ∧ Fr n0 L ∧ Keep h0 h [o0] ∧ ag0 Z h o0 ys ∧ ys.length = 2 ∧ ∀ y ∈ ys, ¬ y < (0 : Int32)) none h3 _ := ⟨[c1, c0], rfl, N3, K3, A3, rfl, (aa2 hn1 (aa2 hn0 am3))⟩
    rw [e3]; exact hfin
  · refine au0 X0 hx (pc' := 64) (hb hby aq5) (flt hc1).2.1 ?_
    refine am1 X0 hx (pc' := 3) (hb hby aj4) ?_
    refine aq1 X0 hx (hb hby aj6) rfl (l' := #[.val (.ref o0), .val (.int (0 : Int32)), .val (.int (2 : Int32)), .val (.int (1 : Int32)), .val (.int (2 : Int32)), .val (.int c1)]) rfl ?_
    refine ak0 X0 hx (hb hby ak6) rfl ?_
    refine ae0 X0 hx (hb hby al6) rfl ?_
    refine au0 X0 hx (pc' := 67) (hb hby am6) (flt (by decide : ¬ ((2 : Int32) < (2 : Int32)))).2.1 ?_
    refine at1 X0 hx hlk hP hrt (hb hby bs0) (by decide) (by decide) ?_
    have hfin : (fun (v : Option Value) (h : Heap) (L : List Loc) => ∃ ys : List Int32, v = none ∧ Fr n0 L ∧ Keep h0 h [o0] ∧ ag0 Z h o0 ys ∧ ys.length = 2 ∧ ∀ y ∈ ys, ¬ y < (0 : Int32)) none h0 _ := ⟨[c0, c1], rfl, N0, K0, A_o0, rfl, (aa2 hn0 (aa2 hn1 am3))⟩
    rw [e0]; exact hfin
theorem dw8 (m : MethodId) (o1 : Addr) : entryFrame m #[.null, (.ref o1), (.int (0 : Int32)), (.int (0 : Int32)), (.int (2 : Int32))] 21 = mkF m 0 #[.val .null, .val (.ref o1), .val (.int (0 : Int32)), .val (.int (0 : Int32)), .val (.int (2 : Int32)), .unset, .unset, .unset, .unset, .unset, .unset, .unset, .unset, .unset, .unset, .unset, .unset, .unset, .unset, .unset, .unset] [] := by first | (simp [entryFrame, mkF, argsToLocals, Value.category]; done) | rfl
set_option maxRecDepth 65536 in
set_option maxHeartbeats 40000000 in
theorem ed1 (l : Launch) (Z : State) (a0 : Array Value) (hw : ∀ d ∈ tables_1, d.before a0 Z = true) (ws : List Jvm.Cond) (o1 : Addr) (c0 : Int32) (c1 : Int32) (h0 : Heap) (n0 : Nat) (Z0 : n0 ≤ h0.size) (A_o1 : ag0 Z h0 o1 [c0, c1]) (ai6 : n0 ≤ o1) (hn0 : ¬ (c0 < (0 : Int32))) (hn1 : ¬ (c1 < (0 : Int32))) :
    as0 l Z (⟨z_s7, "sort", bq5⟩ : MethodName) jdk_2529_method_4_code 21 none ws ({ frames := 1, cells := 0, slots := 0, locals := 17 } : Room) #[.null, (.ref o1), (.int (0 : Int32)), (.int (0 : Int32)), (.int (2 : Int32))] h0 (fun (v : Option Value) (h : Heap) (L : List Loc) => ∃ ys : List Int32, v = none ∧ Fr n0 L ∧ Keep h0 h [o1] ∧ ag0 Z h o1 ys ∧ ys.length = 2 ∧ ∀ y ∈ ys, ¬ y < (0 : Int32)) := by
  refine aq0 (plainFor_of_name aj1) ?_
  intro p e s m below meth c s₁ P hx hby hml hrt hlk hown hnm hZ X0 e0 hP
  have N0 := Fr.nil n0
  have K0 := Keep.refl h0 [o1]
  have hml' : c.maxLocals = 21 := hml
  refine ar0 (dw8 m o1) ?_
  show ac0 p e below P (s₁.setTop (mkF m 0 #[.val .null, .val (.ref o1), .val (.int (0 : Int32)), .val (.int (0 : Int32)), .val (.int (2 : Int32)), .unset, .unset, .unset, .unset, .unset, .unset, .unset, .unset, .unset, .unset, .unset, .unset, .unset, .unset, .unset, .unset] []))
  refine ak0 X0 hx (hb hby bx5) rfl ?_
  refine am0 X0 hx (hb hby by5) (z := (1 : Int32)) rfl ?_
  refine ar2 X0 hx (hb hby bz5) (z := (1 : Int32)) rfl ?_
  refine ai1 X0 hx (hb hby b6) (l' := #[.val .null, .val (.ref o1), .val (.int (0 : Int32)), .val (.int (0 : Int32)), .val (.int (2 : Int32)), .val (.int (1 : Int32)), .unset, .unset, .unset, .unset, .unset, .unset, .unset, .unset, .unset, .unset, .unset, .unset, .unset, .unset, .unset]) rfl ?_
  refine ak0 X0 hx (hb hby ba6) rfl ?_
  refine ae0 X0 hx (hb hby bb6) rfl ?_
  refine ar2 X0 hx (hb hby bc6) (z := (2 : Int32)) rfl ?_
  refine ai1 X0 hx (hb hby bc3) (l' := #[.val .null, .val (.ref o1), .val (.int (0 : Int32)), .val (.int (0 : Int32)), .val (.int (2 : Int32)), .val (.int (1 : Int32)), .val (.int (2 : Int32)), .unset, .unset, .unset, .unset, .unset, .unset, .unset, .unset, .unset, .unset, .unset, .unset, .unset, .unset]) rfl ?_
  refine ak0 X0 hx (hb hby bd3) rfl ?_
  refine ak8 X0 hx (hb hby be3) (z := (65 : Int32)) rfl ?_
  refine ae0 X0 hx (hb hby bf3) rfl ?_
  refine am2 X0 hx (hb hby bg3) (z := (65 : Int32)) rfl ?_
  refine av0 X0 hx (hb hby bh3) (tlt (by decide : (2 : Int32) < (65 : Int32))).2.1 ?_
  refine ae0 X0 hx (hb hby bi3) rfl ?_
  refine am0 X0 hx (hb hby bj3) (z := (1 : Int32)) rfl ?_
  refine an9 X0 hx (hb hby bk3) (z := (0 : Int32)) rfl ?_
  refine ak4 X0 hx (pc' := 46) (hb hby bl3) ((if0 _ _).trans (flt (by decide : ¬ ((0 : Int32) < (0 : Int32)))).2.2.2) ?_
  refine ak0 X0 hx (hb hby bm3) rfl ?_
  refine ak8 X0 hx (hb hby bn3) (z := (44 : Int32)) rfl ?_
  refine av0 X0 hx (hb hby bo3) (tlt (by decide : (2 : Int32) < (44 : Int32))).2.1 ?_
  refine ab0 X0 hx (hb hby bp3) rfl rfl ?_
  refine ae0 X0 hx (hb hby bq3) rfl ?_
  refine ak0 X0 hx (hb hby br3) rfl ?_
  refine af1 X0 hx hZ (y := (⟨z_s7, "insertionSort", "([III)V"⟩ : MethodName)) hown (z_w hw 182 rfl) (z_w hw 183 rfl) (z_w hw 177 rfl) (z_w hw 184 rfl) (ec1 l Z a0 hw [] o1 c0 c1 h0 n0 (Nat.le_trans Z0 K0.1) A_o1 ai6 hn0 hn1) 0 e0 hml' (argsL := [(.ref o1), (.int (0 : Int32)), (.int (2 : Int32))]) (rest := []) (lenOf ag9 rfl) (hb hby bs3) (fun r1 T1 L1 X1 hQ1 => ?_)
  obtain ⟨ys1, rfl, Nq1, Kq1, As1, hl1, ha1⟩ := hQ1
  have N1 := Fr.app N0 Nq1
  obtain ⟨y0_1, y1_1, rfl⟩ := bb7 hl1
  have K1 := Keep.trans K0 Kq1 (allS (Or.inl (List.mem_of_getElem? (i := 0) rfl)) all0)
  have ap3 : ¬ y0_1 < (0 : Int32) := ha1 _ (by simp)
  have aa5 : ¬ y1_1 < (0 : Int32) := ha1 _ (by simp)
  show ac0 p e below P (T1.setTop (mkF m 60 #[.val .null, .val (.ref o1), .val (.int (0 : Int32)), .val (.int (0 : Int32)), .val (.int (2 : Int32)), .val (.int (1 : Int32)), .val (.int (2 : Int32)), .unset, .unset, .unset, .unset, .unset, .unset, .unset, .unset, .unset, .unset, .unset, .unset, .unset, .unset] []))
  refine at1 X1 hx hlk hP hrt (hb hby bt3) (by decide) (by decide) ?_
  have hfin : (fun (v : Option Value) (h : Heap) (L : List Loc) => ∃ ys : List Int32, v = none ∧ Fr n0 L ∧ Keep h0 h [o1] ∧ ag0 Z h o1 ys ∧ ys.length = 2 ∧ ∀ y ∈ ys, ¬ y < (0 : Int32)) none T1.heap _ := ⟨[y0_1, y1_1], rfl, N1, K1, As1, rfl, (aa2 ap3 (aa2 aa5 am3))⟩
  exact hfin
theorem dx8 (m : MethodId) (o0 : Addr) : entryFrame m #[(.ref o0), (.int (0 : Int32)), (.int (0 : Int32)), (.int (2 : Int32))] 7 = mkF m 0 #[.val (.ref o0), .val (.int (0 : Int32)), .val (.int (0 : Int32)), .val (.int (2 : Int32)), .unset, .unset, .unset] [] := by first | (simp [entryFrame, mkF, argsToLocals, Value.category]; done) | rfl
set_option maxRecDepth 65536 in
set_option maxHeartbeats 40000000 in
theorem ee1 (l : Launch) (Z : State) (a0 : Array Value) (hw : ∀ d ∈ tables_1, d.before a0 Z = true) (ws : List Jvm.Cond) (o0 : Addr) (c0 : Int32) (c1 : Int32) (h0 : Heap) (n0 : Nat) (Z0 : n0 ≤ h0.size) (A_o0 : ag0 Z h0 o0 [c0, c1]) (ab1 : n0 ≤ o0) (hn0 : ¬ (c0 < (0 : Int32))) (hn1 : ¬ (c1 < (0 : Int32))) :
    as0 l Z (⟨z_s7, "sort", "([IIII)V"⟩ : MethodName) jdk_2529_method_3_code 7 none ws ({ frames := 2, cells := 0, slots := 0, locals := 49 } : Room) #[(.ref o0), (.int (0 : Int32)), (.int (0 : Int32)), (.int (2 : Int32))] h0 (fun (v : Option Value) (h : Heap) (L : List Loc) => ∃ ys : List Int32, v = none ∧ Fr n0 L ∧ Keep h0 h [o0] ∧ ag0 Z h o0 ys ∧ ys.length = 2 ∧ ∀ y ∈ ys, ¬ y < (0 : Int32)) := by
  refine aq0 (plainFor_of_name aj1) ?_
  intro p e s m below meth c s₁ P hx hby hml hrt hlk hown hnm hZ X0 e0 hP
  have N0 := Fr.nil n0
  have K0 := Keep.refl h0 [o0]
  have hml' : c.maxLocals = 7 := hml
  refine ar0 (dx8 m o0) ?_
  show ac0 p e below P (s₁.setTop (mkF m 0 #[.val (.ref o0), .val (.int (0 : Int32)), .val (.int (0 : Int32)), .val (.int (2 : Int32)), .unset, .unset, .unset] []))
  refine ae0 X0 hx (hb hby bd6) rfl ?_
  refine ae0 X0 hx (hb hby be6) rfl ?_
  refine ar2 X0 hx (hb hby bf6) (z := (2 : Int32)) rfl ?_
  refine ai1 X0 hx (hb hby bg6) (l' := #[.val (.ref o0), .val (.int (0 : Int32)), .val (.int (0 : Int32)), .val (.int (2 : Int32)), .val (.int (2 : Int32)), .unset, .unset]) rfl ?_
  refine ae0 X0 hx (hb hby bh6) rfl ?_
  refine am0 X0 hx (hb hby bi6) (z := (1 : Int32)) rfl ?_
  refine au0 X0 hx (pc' := 68) (hb hby bj6) (flt (by decide : ¬ ((1 : Int32) < (0 : Int32)))).2.2.2 ?_
  refine ai8 X0 hx (hb hby bu3) ?_
  refine ab0 X0 hx (hb hby bv3) rfl rfl ?_
  refine am0 X0 hx (hb hby bw3) (z := (0 : Int32)) rfl ?_
  refine ae0 X0 hx (hb hby bx3) rfl ?_
  refine ae0 X0 hx (hb hby by3) rfl ?_
  refine af1 X0 hx hZ (y := (⟨z_s7, "sort", bq5⟩ : MethodName)) hown (z_w hw 179 rfl) (z_w hw 180 rfl) (z_w hw 177 rfl) (z_w hw 181 rfl) (ed1 l Z a0 hw [] o0 c0 c1 h0 n0 (Nat.le_trans Z0 K0.1) A_o0 ab1 hn0 hn1) 0 e0 hml' (argsL := [.null, (.ref o0), (.int (0 : Int32)), (.int (0 : Int32)), (.int (2 : Int32))]) (rest := []) (lenOf ai2 rfl) (hb hby bz3) (fun r1 T1 L1 X1 hQ1 => ?_)
  obtain ⟨ys1, rfl, Nq1, Kq1, As1, hl1, ha1⟩ := hQ1
  have N1 := Fr.app N0 Nq1
  obtain ⟨y0_1, y1_1, rfl⟩ := bb7 hl1
  have K1 := Keep.trans K0 Kq1 (allS (Or.inl (List.mem_of_getElem? (i := 0) rfl)) all0)
  have ap3 : ¬ y0_1 < (0 : Int32) := ha1 _ (by simp)
  have aa5 : ¬ y1_1 < (0 : Int32) := ha1 _ (by simp)
  show ac0 p e below P (T1.setTop (mkF m 76 #[.val (.ref o0), .val (.int (0 : Int32)), .val (.int (0 : Int32)), .val (.int (2 : Int32)), .val (.int (2 : Int32)), .unset, .unset] []))
  refine at1 X1 hx hlk hP hrt (hb hby ba4) (by decide) (by decide) ?_
  have hfin : (fun (v : Option Value) (h : Heap) (L : List Loc) => ∃ ys : List Int32, v = none ∧ Fr n0 L ∧ Keep h0 h [o0] ∧ ag0 Z h o0 ys ∧ ys.length = 2 ∧ ∀ y ∈ ys, ¬ y < (0 : Int32)) none T1.heap _ := ⟨[y0_1, y1_1], rfl, N1, K1, As1, rfl, (aa2 ap3 (aa2 aa5 am3))⟩
  exact hfin
theorem dy8 (m : MethodId) (o0 : Addr) : entryFrame m #[(.ref o0)] 1 = mkF m 0 #[.val (.ref o0)] [] := by first | (simp [entryFrame, mkF, argsToLocals, Value.category]; done) | rfl
set_option maxRecDepth 65536 in
set_option maxHeartbeats 40000000 in
theorem ef1 (l : Launch) (Z : State) (a0 : Array Value) (hw : ∀ d ∈ tables_1, d.before a0 Z = true) (ws : List Jvm.Cond) (o0 : Addr) (c0 : Int32) (c1 : Int32) (h0 : Heap) (n0 : Nat) (Z0 : n0 ≤ h0.size) (A_o0 : ag0 Z h0 o0 [c0, c1]) (ab1 : n0 ≤ o0) (hn0 : ¬ (c0 < (0 : Int32))) (hn1 : ¬ (c1 < (0 : Int32))) :
    as0 l Z (⟨z_s5, "sort", "([I)V"⟩ : MethodName) jdk_65_method_2_code 1 none ws ({ frames := 3, cells := 0, slots := 0, locals := 67 } : Room) #[(.ref o0)] h0 (fun (v : Option Value) (h : Heap) (L : List Loc) => ∃ ys : List Int32, v = none ∧ Fr n0 L ∧ Keep h0 h [o0] ∧ ag0 Z h o0 ys ∧ ys.length = 2 ∧ ∀ y ∈ ys, ¬ y < (0 : Int32)) := by
  refine aq0 (plainFor_of_name az0) ?_
  intro p e s m below meth c s₁ P hx hby hml hrt hlk hown hnm hZ X0 e0 hP
  have N0 := Fr.nil n0
  have K0 := Keep.refl h0 [o0]
  have hml' : c.maxLocals = 1 := hml
  refine ar0 (dy8 m o0) ?_
  show ac0 p e below P (s₁.setTop (mkF m 0 #[.val (.ref o0)] []))
  refine ab0 X0 hx (hb hby bk6) rfl rfl ?_
  refine am0 X0 hx (hb hby bl6) (z := (0 : Int32)) rfl ?_
  refine am0 X0 hx (hb hby bm6) (z := (0 : Int32)) rfl ?_
  refine ab0 X0 hx (hb hby bn6) rfl rfl ?_
  refine ah1 X0 hx hZ e0 A_o0 (z := (2 : Int32)) rfl (hb hby bo6) ?_
  refine af1 X0 hx hZ (y := (⟨z_s7, "sort", "([IIII)V"⟩ : MethodName)) hown (z_w hw 175 rfl) (z_w hw 176 rfl) (z_w hw 177 rfl) (z_w hw 178 rfl) (ee1 l Z a0 hw [] o0 c0 c1 h0 n0 (Nat.le_trans Z0 K0.1) A_o0 ab1 hn0 hn1) 0 e0 hml' (argsL := [(.ref o0), (.int (0 : Int32)), (.int (0 : Int32)), (.int (2 : Int32))]) (rest := []) (lenOf am8 rfl) (hb hby bp6) (fun r1 T1 L1 X1 hQ1 => ?_)
  obtain ⟨ys1, rfl, Nq1, Kq1, As1, hl1, ha1⟩ := hQ1
  have N1 := Fr.app N0 Nq1
  obtain ⟨y0_1, y1_1, rfl⟩ := bb7 hl1
  have K1 := Keep.trans K0 Kq1 (allS (Or.inl (List.mem_of_getElem? (i := 0) rfl)) all0)
  have ap3 : ¬ y0_1 < (0 : Int32) := ha1 _ (by simp)
  have aa5 : ¬ y1_1 < (0 : Int32) := ha1 _ (by simp)
  show ac0 p e below P (T1.setTop (mkF m 8 #[.val (.ref o0)] []))
  refine at1 X1 hx hlk hP hrt (hb hby bq6) (by decide) (by decide) ?_
  have hfin : (fun (v : Option Value) (h : Heap) (L : List Loc) => ∃ ys : List Int32, v = none ∧ Fr n0 L ∧ Keep h0 h [o0] ∧ ag0 Z h o0 ys ∧ ys.length = 2 ∧ ∀ y ∈ ys, ¬ y < (0 : Int32)) none T1.heap _ := ⟨[y0_1, y1_1], rfl, N1, K1, As1, rfl, (aa2 ap3 (aa2 aa5 am3))⟩
  exact hfin
theorem dz8 (m : MethodId) (o0 : Addr) : entryFrame m #[(.ref o0), (.int (0 : Int32)), (.int (3 : Int32))] 6 = mkF m 0 #[.val (.ref o0), .val (.int (0 : Int32)), .val (.int (3 : Int32)), .unset, .unset, .unset] [] := by first | (simp [entryFrame, mkF, argsToLocals, Value.category]; done) | rfl
set_option maxRecDepth 65536 in
set_option maxHeartbeats 40000000 in
theorem eg1 (l : Launch) (Z : State) (a0 : Array Value) (hw : ∀ d ∈ tables_1, d.before a0 Z = true) (ws : List Jvm.Cond) (o0 : Addr) (c0 : Int32) (c1 : Int32) (c2 : Int32) (h0 : Heap) (n0 : Nat) (Z0 : n0 ≤ h0.size) (A_o0 : ag0 Z h0 o0 [c0, c1, c2]) (ab1 : n0 ≤ o0) (hn0 : ¬ (c0 < (0 : Int32))) (hn1 : ¬ (c1 < (0 : Int32))) (hn2 : ¬ (c2 < (0 : Int32))) :
    as0 l Z (⟨z_s7, "insertionSort", "([III)V"⟩ : MethodName) jdk_2529_method_6_code 6 none ws ({ frames := 0, cells := 0, slots := 0, locals := 0 } : Room) #[(.ref o0), (.int (0 : Int32)), (.int (3 : Int32))] h0 (fun (v : Option Value) (h : Heap) (L : List Loc) => ∃ ys : List Int32, v = none ∧ Fr n0 L ∧ Keep h0 h [o0] ∧ ag0 Z h o0 ys ∧ ys.length = 3 ∧ ∀ y ∈ ys, ¬ y < (0 : Int32)) := by
  refine aq0 (plainFor_of_name aj1) ?_
  intro p e s m below meth c s₁ P hx hby hml hrt hlk hown hnm hZ X0 e0 hP
  have N0 := Fr.nil n0
  have K0 := Keep.refl h0 [o0]
  have hml' : c.maxLocals = 6 := hml
  refine ar0 (dz8 m o0) ?_
  show ac0 p e below P (s₁.setTop (mkF m 0 #[.val (.ref o0), .val (.int (0 : Int32)), .val (.int (3 : Int32)), .unset, .unset, .unset] []))
  refine ae0 X0 hx (hb hby bv5) rfl ?_
  refine ai1 X0 hx (hb hby bw5) (l' := #[.val (.ref o0), .val (.int (0 : Int32)), .val (.int (3 : Int32)), .unset, .val (.int (0 : Int32)), .unset]) rfl ?_
  have J1 : ∀ (T1 : State) (L1 : List Loc) (h1 : Heap) (va1 vb1 y0_1 y1_1 y2_1 : Int32), Stand p l e ({ frames := 0, cells := 0, slots := 0, locals := 0 } : Room) s m #[(.ref o0), (.int (0 : Int32)), (.int (3 : Int32))] below meth c T1 L1 0 0 → T1.heap = h1 → Fr n0 L1 → Keep h0 h1 [o0] → ag0 Z h1 o0 [y0_1, y1_1, y2_1] → ¬ y0_1 < (0 : Int32) → ¬ y1_1 < (0 : Int32) → ¬ y2_1 < (0 : Int32) → ac0 p e below P (T1.setTop (mkF m 3 #[.val (.ref o0), .val (.int (0 : Int32)), .val (.int (3 : Int32)), .val (.int va1), .val (.int (2 : Int32)), .val (.int vb1)] [])) := by
    intro T1 L1 h1 va1 vb1 y0_1 y1_1 y2_1 X1 e1 N1 K1 A1 ap3 aa5 ao7
    refine aq1 X1 hx (hb hby aj6) rfl (l' := #[.val (.ref o0), .val (.int (0 : Int32)), .val (.int (3 : Int32)), .val (.int va1), .val (.int (3 : Int32)), .val (.int vb1)]) rfl ?_
    refine ak0 X1 hx (hb hby ak6) rfl ?_
    refine ae0 X1 hx (hb hby al6) rfl ?_
    refine au0 X1 hx (pc' := 67) (hb hby am6) (flt (by decide : ¬ ((3 : Int32) < (3 : Int32)))).2.1 ?_
    refine at1 X1 hx hlk hP hrt (hb hby bs0) (by decide) (by decide) ?_
    have hfin : (fun (v : Option Value) (h : Heap) (L : List Loc) => ∃ ys : List Int32, v = none ∧ Fr n0 L ∧ Keep h0 h [o0] ∧ ag0 Z h o0 ys ∧ ys.length = 3 ∧ ∀ y ∈ ys, ¬ y < (0 : Int32)) none h1 _ := ⟨[y0_1, y1_1, y2_1], rfl, N1, K1, A1, rfl, (aa2 ap3 (aa2 aa5 (aa2 ao7 am3)))⟩
    rw [e1]; exact hfin
  have J2 : ∀ (T2 : State) (L2 : List Loc) (h2 : Heap) (va2 vb2 y0_2 y1_2 y2_2 : Int32), Stand p l e ({ frames := 0, cells := 0, slots := 0, locals := 0 } : Room) s m #[(.ref o0), (.int (0 : Int32)), (.int (3 : Int32))] below meth c T2 L2 0 0 → T2.heap = h2 → Fr n0 L2 → Keep h0 h2 [o0] → ag0 Z h2 o0 [y0_2, y1_2, y2_2] → ¬ y0_2 < (0 : Int32) → ¬ y1_2 < (0 : Int32) → ¬ y2_2 < (0 : Int32) → ac0 p e below P (T2.setTop (mkF m 3 #[.val (.ref o0), .val (.int (0 : Int32)), .val (.int (3 : Int32)), .val (.int va2), .val (.int (1 : Int32)), .val (.int vb2)] [])) := by
    intro T2 L2 h2 va2 vb2 y0_2 y1_2 y2_2 X2 e2 N2 K2 A2 bn5 bo5 bp5
    refine aq1 X2 hx (hb hby aj6) rfl (l' := #[.val (.ref o0), .val (.int (0 : Int32)), .val (.int (3 : Int32)), .val (.int va2), .val (.int (2 : Int32)), .val (.int vb2)]) rfl ?_
    refine ak0 X2 hx (hb hby ak6) rfl ?_
    refine ae0 X2 hx (hb hby al6) rfl ?_
    refine av0 X2 hx (hb hby am6) (tlt (by decide : (2 : Int32) < (3 : Int32))).2.1 ?_
    refine ab0 X2 hx (hb hby bt0) rfl rfl ?_
    refine ak0 X2 hx (hb hby bu0) rfl ?_
    refine an6 X2 hx (hb hby bv0) rfl ?_
    refine aj2 X2 hx (hb hby bw0) (l' := #[.val (.ref o0), .val (.int (0 : Int32)), .val (.int (3 : Int32)), .val (.int (2 : Int32)), .val (.int (2 : Int32)), .val (.int vb2)]) rfl ?_
    refine al1 X2 hx hZ e2 A2 (j := (2 : Int32)) (v := y2_2) (i := 2) (by decide) rfl (hb hby bx0) ?_
    refine ai1 X2 hx (hb hby by0) (l' := #[.val (.ref o0), .val (.int (0 : Int32)), .val (.int (3 : Int32)), .val (.int (2 : Int32)), .val (.int (2 : Int32)), .val (.int y2_2)]) rfl ?_
    refine ak0 X2 hx (hb hby bz0) rfl ?_
    refine ab0 X2 hx (hb hby ba1) rfl rfl ?_
    refine ae0 X2 hx (hb hby bb1) rfl ?_
    refine am0 X2 hx (hb hby bc1) (z := (1 : Int32)) rfl ?_
    refine ar2 X2 hx (hb hby bd1) (z := (1 : Int32)) rfl ?_
    refine al1 X2 hx hZ e2 A2 (j := (1 : Int32)) (v := y1_2) (i := 1) (by decide) rfl (hb hby be1) ?_
    by_cases hc3 : y2_2 < y1_2
    · refine av0 X2 hx (hb hby aq5) (tlt hc3).2.1 ?_
      refine aq1 X2 hx (hb hby af4) rfl (l' := #[.val (.ref o0), .val (.int (0 : Int32)), .val (.int (3 : Int32)), .val (.int (1 : Int32)), .val (.int (2 : Int32)), .val (.int y2_2)]) rfl ?_
      refine ae0 X2 hx (hb hby ag4) rfl ?_
      refine ae0 X2 hx (hb hby ah4) rfl ?_
      refine av0 X2 hx (hb hby ai4) (flt (by decide : ¬ ((1 : Int32) < (0 : Int32)))).1 ?_
      refine ak0 X2 hx (hb hby ao6) rfl ?_
      refine ab0 X2 hx (hb hby ap6) rfl rfl ?_
      refine ae0 X2 hx (hb hby aq6) rfl ?_
      refine al1 X2 hx hZ e2 A2 (j := (1 : Int32)) (v := y1_2) (i := 1) (by decide) rfl (hb hby ar6) ?_
      refine av0 X2 hx (hb hby as4) (tlt hc3).2.1 ?_
      refine ab0 X2 hx (hb hby as6) rfl rfl ?_
      refine ae0 X2 hx (hb hby at6) rfl ?_
      refine am0 X2 hx (hb hby au6) (z := (1 : Int32)) rfl ?_
      refine am2 X2 hx (hb hby av6) (z := (2 : Int32)) rfl ?_
      refine ab0 X2 hx (hb hby aw6) rfl rfl ?_
      refine ae0 X2 hx (hb hby ax6) rfl ?_
      refine al1 X2 hx hZ e2 A2 (j := (1 : Int32)) (v := y1_2) (i := 1) (by decide) rfl (hb hby ay6) ?_
      refine ae2 X2 hx hZ e2 A2 (j := (2 : Int32)) (v := y1_2) (i := 2) (by decide) (by show (2 : Nat) < 3; decide) (hb hby az6) (fun T4 h4 X4 e4 W4 B4 => ?_)
      have A4 : ag0 Z h4 o0 [y0_2, y1_2, y1_2] := B4
      have N4 := Fr.snoc X4 N2 ab1
      have K4 := Keep.wr K2 W4 (Or.inl (List.mem_of_getElem? (i := 0) rfl))
      refine am1 X4 hx (pc' := 30) (hb hby a7) ?_
      refine aq1 X4 hx (hb hby af4) rfl (l' := #[.val (.ref o0), .val (.int (0 : Int32)), .val (.int (3 : Int32)), .val (.int (0 : Int32)), .val (.int (2 : Int32)), .val (.int y2_2)]) rfl ?_
      refine ae0 X4 hx (hb hby ag4) rfl ?_
      refine ae0 X4 hx (hb hby ah4) rfl ?_
      refine av0 X4 hx (hb hby ai4) (flt (by decide : ¬ ((0 : Int32) < (0 : Int32)))).1 ?_
      refine ak0 X4 hx (hb hby ao6) rfl ?_
      refine ab0 X4 hx (hb hby ap6) rfl rfl ?_
      refine ae0 X4 hx (hb hby aq6) rfl ?_
      refine al1 X4 hx hZ e4 A4 (j := (0 : Int32)) (v := y0_2) (i := 0) (by decide) rfl (hb hby ar6) ?_
      by_cases hc5 : y2_2 < y0_2
      · refine av0 X4 hx (hb hby as4) (tlt hc5).2.1 ?_
        refine ab0 X4 hx (hb hby as6) rfl rfl ?_
        refine ae0 X4 hx (hb hby at6) rfl ?_
        refine am0 X4 hx (hb hby au6) (z := (1 : Int32)) rfl ?_
        refine am2 X4 hx (hb hby av6) (z := (1 : Int32)) rfl ?_
        refine ab0 X4 hx (hb hby aw6) rfl rfl ?_
        refine ae0 X4 hx (hb hby ax6) rfl ?_
        refine al1 X4 hx hZ e4 A4 (j := (0 : Int32)) (v := y0_2) (i := 0) (by decide) rfl (hb hby ay6) ?_
        refine ae2 X4 hx hZ e4 A4 (j := (1 : Int32)) (v := y0_2) (i := 1) (by decide) (by show (1 : Nat) < 3; decide) (hb hby az6) (fun T6 h6 X6 e6 W6 B6 => ?_)
        have A6 : ag0 Z h6 o0 [y0_2, y0_2, y1_2] := B6
        have N6 := Fr.snoc X6 N4 ab1
        have K6 := Keep.wr K4 W6 (Or.inl (List.mem_of_getElem? (i := 0) rfl))
        refine am1 X6 hx (pc' := 30) (hb hby a7) ?_
        refine aq1 X6 hx (hb hby af4) rfl (l' := #[.val (.ref o0), .val (.int (0 : Int32)), .val (.int (3 : Int32)), .val (.int (-1 : Int32)), .val (.int (2 : Int32)), .val (.int y2_2)]) rfl ?_
        refine ae0 X6 hx (hb hby ag4) rfl ?_
        refine ae0 X6 hx (hb hby ah4) rfl ?_
        refine au0 X6 hx (pc' := 57) (hb hby ai4) (tlt (by decide : (-1 : Int32) < (0 : Int32))).1 ?_
        refine ab0 X6 hx (hb hby aa7) rfl rfl ?_
        refine ae0 X6 hx (hb hby ab7) rfl ?_
        refine am0 X6 hx (hb hby ac7) (z := (1 : Int32)) rfl ?_
        refine am2 X6 hx (hb hby ad7) (z := (0 : Int32)) rfl ?_
        refine ak0 X6 hx (hb hby ae7) rfl ?_
        refine ae2 X6 hx hZ e6 A6 (j := (0 : Int32)) (v := y2_2) (i := 0) (by decide) (by show (0 : Nat) < 3; decide) (hb hby af7) (fun T7 h7 X7 e7 W7 B7 => ?_)
        have A7 : ag0 Z h7 o0 [y2_2, y0_2, y1_2] := B7
        have N7 := Fr.snoc X7 N6 ab1
        have K7 := Keep.wr K6 W7 (Or.inl (List.mem_of_getElem? (i := 0) rfl))
        refine am1 X7 hx (pc' := 3) (hb hby aj4) ?_
        exact J1 T7 _ h7 (-1 : Int32) y2_2 y2_2 y0_2 y1_2 X7 e7 N7 K7 A7 bp5 bn5 bo5
      · refine au0 X4 hx (pc' := 57) (hb hby as4) (flt hc5).2.1 ?_
        refine ab0 X4 hx (hb hby aa7) rfl rfl ?_
        refine ae0 X4 hx (hb hby ab7) rfl ?_
        refine am0 X4 hx (hb hby ac7) (z := (1 : Int32)) rfl ?_
        refine am2 X4 hx (hb hby ad7) (z := (1 : Int32)) rfl ?_
        refine ak0 X4 hx (hb hby ae7) rfl ?_
        refine ae2 X4 hx hZ e4 A4 (j := (1 : Int32)) (v := y2_2) (i := 1) (by decide) (by show (1 : Nat) < 3; decide) (hb hby af7) (fun T8 h8 X8 e8 W8 B8 => ?_)
        have A8 : ag0 Z h8 o0 [y0_2, y2_2, y1_2] := B8
        have N8 := Fr.snoc X8 N4 ab1
        have K8 := Keep.wr K4 W8 (Or.inl (List.mem_of_getElem? (i := 0) rfl))
        refine am1 X8 hx (pc' := 3) (hb hby aj4) ?_
        exact J1 T8 _ h8 (0 : Int32) y2_2 y0_2 y2_2 y1_2 X8 e8 N8 K8 A8 bn5 bp5 bo5
    · refine au0 X2 hx (pc' := 64) (hb hby aq5) (flt hc3).2.1 ?_
      refine am1 X2 hx (pc' := 3) (hb hby aj4) ?_
      exact J1 T2 _ h2 (2 : Int32) y2_2 y0_2 y1_2 y2_2 X2 e2 N2 K2 A2 bn5 bo5 bp5
  refine aq1 X0 hx (hb hby aj6) rfl (l' := #[.val (.ref o0), .val (.int (0 : Int32)), .val (.int (3 : Int32)), .unset, .val (.int (1 : Int32)), .unset]) rfl ?_
  refine ak0 X0 hx (hb hby ak6) rfl ?_
  refine ae0 X0 hx (hb hby al6) rfl ?_
  refine av0 X0 hx (hb hby am6) (tlt (by decide : (1 : Int32) < (3 : Int32))).2.1 ?_
  refine ab0 X0 hx (hb hby bt0) rfl rfl ?_
  refine ak0 X0 hx (hb hby bu0) rfl ?_
  refine an6 X0 hx (hb hby bv0) rfl ?_
  refine aj2 X0 hx (hb hby bw0) (l' := #[.val (.ref o0), .val (.int (0 : Int32)), .val (.int (3 : Int32)), .val (.int (1 : Int32)), .val (.int (1 : Int32)), .unset]) rfl ?_
  refine al1 X0 hx hZ e0 A_o0 (j := (1 : Int32)) (v := c1) (i := 1) (by decide) rfl (hb hby bx0) ?_
  refine ai1 X0 hx (hb hby by0) (l' := #[.val (.ref o0), .val (.int (0 : Int32)), .val (.int (3 : Int32)), .val (.int (1 : Int32)), .val (.int (1 : Int32)), .val (.int c1)]) rfl ?_
  refine ak0 X0 hx (hb hby bz0) rfl ?_
  refine ab0 X0 hx (hb hby ba1) rfl rfl ?_
  refine ae0 X0 hx (hb hby bb1) rfl ?_
  refine am0 X0 hx (hb hby bc1) (z := (1 : Int32)) rfl ?_
  refine ar2 X0 hx (hb hby bd1) (z := (0 : Int32)) rfl ?_
  refine al1 X0 hx hZ e0 A_o0 (j := (0 : Int32)) (v := c0) (i := 0) (by decide) rfl (hb hby be1) ?_
  by_cases hc9 : c1 < c0
  · refine av0 X0 hx (hb hby aq5) (tlt hc9).2.1 ?_
    refine aq1 X0 hx (hb hby af4) rfl (l' := #[.val (.ref o0), .val (.int (0 : Int32)), .val (.int (3 : Int32)), .val (.int (0 : Int32)), .val (.int (1 : Int32)), .val (.int c1)]) rfl ?_
    refine ae0 X0 hx (hb hby ag4) rfl ?_
    refine ae0 X0 hx (hb hby ah4) rfl ?_
    refine av0 X0 hx (hb hby ai4) (flt (by decide : ¬ ((0 : Int32) < (0 : Int32)))).1 ?_
    refine ak0 X0 hx (hb hby ao6) rfl ?_
    refine ab0 X0 hx (hb hby ap6) rfl rfl ?_
    refine ae0 X0 hx (hb hby aq6) rfl ?_
    refine al1 X0 hx hZ e0 A_o0 (j := (0 : Int32)) (v := c0) (i := 0) (by decide) rfl (hb hby ar6) ?_
    refine av0 X0 hx (hb hby as4) (tlt hc9).2.1 ?_
    refine ab0 X0 hx (hb hby as6) rfl rfl ?_
    refine ae0 X0 hx (hb hby at6) rfl ?_
    refine am0 X0 hx (hb hby au6) (z := (1 : Int32)) rfl ?_
    refine am2 X0 hx (hb hby av6) (z := (1 : Int32)) rfl ?_
    refine ab0 X0 hx (hb hby aw6) rfl rfl ?_
    refine ae0 X0 hx (hb hby ax6) rfl ?_
    refine al1 X0 hx hZ e0 A_o0 (j := (0 : Int32)) (v := c0) (i := 0) (by decide) rfl (hb hby ay6) ?_
    refine ae2 X0 hx hZ e0 A_o0 (j := (1 : Int32)) (v := c0) (i := 1) (by decide) (by show (1 : Nat) < 3; decide) (hb hby az6) (fun T10 h10 X10 e10 W10 B10 => ?_)
    have A10 : ag0 Z h10 o0 [c0, c0, c2] := B10
    have N10 := Fr.snoc X10 N0 ab1
    have K10 := Keep.wr K0 W10 (Or.inl (List.mem_of_getElem? (i := 0) rfl))
    refine am1 X10 hx (pc' := 30) (hb hby a7) ?_
    refine aq1 X10 hx (hb hby af4) rfl (l' := #[.val (.ref o0), .val (.int (0 : Int32)), .val (.int (3 : Int32)), .val (.int (-1 : Int32)), .val (.int (1 : Int32)), .val (.int c1)]) rfl ?_
    refine ae0 X10 hx (hb hby ag4) rfl ?_
    refine ae0 X10 hx (hb hby ah4) rfl ?_
    refine au0 X10 hx (pc' := 57) (hb hby ai4) (tlt (by decide : (-1 : Int32) < (0 : Int32))).1 ?_
    refine ab0 X10 hx (hb hby aa7) rfl rfl ?_
    refine ae0 X10 hx (hb hby ab7) rfl ?_
    refine am0 X10 hx (hb hby ac7) (z := (1 : Int32)) rfl ?_
    refine am2 X10 hx (hb hby ad7) (z := (0 : Int32)) rfl ?_
    refine ak0 X10 hx (hb hby ae7) rfl ?_
    refine ae2 X10 hx hZ e10 A10 (j := (0 : Int32)) (v := c1) (i := 0) (by decide) (by show (0 : Nat) < 3; decide) (hb hby af7) (fun T11 h11 X11 e11 W11 B11 => ?_)
    have A11 : ag0 Z h11 o0 [c1, c0, c2] := B11
    have N11 := Fr.snoc X11 N10 ab1
    have K11 := Keep.wr K10 W11 (Or.inl (List.mem_of_getElem? (i := 0) rfl))
    refine am1 X11 hx (pc' := 3) (hb hby aj4) ?_
    exact J2 T11 _ h11 (-1 : Int32) c1 c1 c0 c2 X11 e11 N11 K11 A11 hn1 hn0 hn2
  · refine au0 X0 hx (pc' := 64) (hb hby aq5) (flt hc9).2.1 ?_
    refine am1 X0 hx (pc' := 3) (hb hby aj4) ?_
    exact J2 s₁ _ h0 (1 : Int32) c1 c0 c1 c2 X0 e0 N0 K0 A_o0 hn0 hn1 hn2
theorem d9 (m : MethodId) (o1 : Addr) : entryFrame m #[.null, (.ref o1), (.int (0 : Int32)), (.int (0 : Int32)), (.int (3 : Int32))] 21 = mkF m 0 #[.val .null, .val (.ref o1), .val (.int (0 : Int32)), .val (.int (0 : Int32)), .val (.int (3 : Int32)), .unset, .unset, .unset, .unset, .unset, .unset, .unset, .unset, .unset, .unset, .unset, .unset, .unset, .unset, .unset, .unset] [] := by first | (simp [entryFrame, mkF, argsToLocals, Value.category]; done) | rfl
set_option maxRecDepth 65536 in
set_option maxHeartbeats 40000000 in
theorem eh1 (l : Launch) (Z : State) (a0 : Array Value) (hw : ∀ d ∈ tables_1, d.before a0 Z = true) (ws : List Jvm.Cond) (o1 : Addr) (c0 : Int32) (c1 : Int32) (c2 : Int32) (h0 : Heap) (n0 : Nat) (Z0 : n0 ≤ h0.size) (A_o1 : ag0 Z h0 o1 [c0, c1, c2]) (ai6 : n0 ≤ o1) (hn0 : ¬ (c0 < (0 : Int32))) (hn1 : ¬ (c1 < (0 : Int32))) (hn2 : ¬ (c2 < (0 : Int32))) :
    as0 l Z (⟨z_s7, "sort", bq5⟩ : MethodName) jdk_2529_method_4_code 21 none ws ({ frames := 1, cells := 0, slots := 0, locals := 17 } : Room) #[.null, (.ref o1), (.int (0 : Int32)), (.int (0 : Int32)), (.int (3 : Int32))] h0 (fun (v : Option Value) (h : Heap) (L : List Loc) => ∃ ys : List Int32, v = none ∧ Fr n0 L ∧ Keep h0 h [o1] ∧ ag0 Z h o1 ys ∧ ys.length = 3 ∧ ∀ y ∈ ys, ¬ y < (0 : Int32)) := by
  refine aq0 (plainFor_of_name aj1) ?_
  intro p e s m below meth c s₁ P hx hby hml hrt hlk hown hnm hZ X0 e0 hP
  have N0 := Fr.nil n0
  have K0 := Keep.refl h0 [o1]
  have hml' : c.maxLocals = 21 := hml
  refine ar0 (d9 m o1) ?_
  show ac0 p e below P (s₁.setTop (mkF m 0 #[.val .null, .val (.ref o1), .val (.int (0 : Int32)), .val (.int (0 : Int32)), .val (.int (3 : Int32)), .unset, .unset, .unset, .unset, .unset, .unset, .unset, .unset, .unset, .unset, .unset, .unset, .unset, .unset, .unset, .unset] []))
  refine ak0 X0 hx (hb hby bx5) rfl ?_
  refine am0 X0 hx (hb hby by5) (z := (1 : Int32)) rfl ?_
  refine ar2 X0 hx (hb hby bz5) (z := (2 : Int32)) rfl ?_
  refine ai1 X0 hx (hb hby b6) (l' := #[.val .null, .val (.ref o1), .val (.int (0 : Int32)), .val (.int (0 : Int32)), .val (.int (3 : Int32)), .val (.int (2 : Int32)), .unset, .unset, .unset, .unset, .unset, .unset, .unset, .unset, .unset, .unset, .unset, .unset, .unset, .unset, .unset]) rfl ?_
  refine ak0 X0 hx (hb hby ba6) rfl ?_
  refine ae0 X0 hx (hb hby bb6) rfl ?_
  refine ar2 X0 hx (hb hby bc6) (z := (3 : Int32)) rfl ?_
  refine ai1 X0 hx (hb hby bc3) (l' := #[.val .null, .val (.ref o1), .val (.int (0 : Int32)), .val (.int (0 : Int32)), .val (.int (3 : Int32)), .val (.int (2 : Int32)), .val (.int (3 : Int32)), .unset, .unset, .unset, .unset, .unset, .unset, .unset, .unset, .unset, .unset, .unset, .unset, .unset, .unset]) rfl ?_
  refine ak0 X0 hx (hb hby bd3) rfl ?_
  refine ak8 X0 hx (hb hby be3) (z := (65 : Int32)) rfl ?_
  refine ae0 X0 hx (hb hby bf3) rfl ?_
  refine am2 X0 hx (hb hby bg3) (z := (65 : Int32)) rfl ?_
  refine av0 X0 hx (hb hby bh3) (tlt (by decide : (3 : Int32) < (65 : Int32))).2.1 ?_
  refine ae0 X0 hx (hb hby bi3) rfl ?_
  refine am0 X0 hx (hb hby bj3) (z := (1 : Int32)) rfl ?_
  refine an9 X0 hx (hb hby bk3) (z := (0 : Int32)) rfl ?_
  refine ak4 X0 hx (pc' := 46) (hb hby bl3) ((if0 _ _).trans (flt (by decide : ¬ ((0 : Int32) < (0 : Int32)))).2.2.2) ?_
  refine ak0 X0 hx (hb hby bm3) rfl ?_
  refine ak8 X0 hx (hb hby bn3) (z := (44 : Int32)) rfl ?_
  refine av0 X0 hx (hb hby bo3) (tlt (by decide : (3 : Int32) < (44 : Int32))).2.1 ?_
  refine ab0 X0 hx (hb hby bp3) rfl rfl ?_
  refine ae0 X0 hx (hb hby bq3) rfl ?_
  refine ak0 X0 hx (hb hby br3) rfl ?_
  refine af1 X0 hx hZ (y := (⟨z_s7, "insertionSort", "([III)V"⟩ : MethodName)) hown (z_w hw 182 rfl) (z_w hw 183 rfl) (z_w hw 177 rfl) (z_w hw 184 rfl) (eg1 l Z a0 hw [] o1 c0 c1 c2 h0 n0 (Nat.le_trans Z0 K0.1) A_o1 ai6 hn0 hn1 hn2) 0 e0 hml' (argsL := [(.ref o1), (.int (0 : Int32)), (.int (3 : Int32))]) (rest := []) (lenOf ag9 rfl) (hb hby bs3) (fun r1 T1 L1 X1 hQ1 => ?_)
  obtain ⟨ys1, rfl, Nq1, Kq1, As1, hl1, ha1⟩ := hQ1
  have N1 := Fr.app N0 Nq1
  obtain ⟨y0_1, y1_1, y2_1, rfl⟩ := bx7 hl1
  have K1 := Keep.trans K0 Kq1 (allS (Or.inl (List.mem_of_getElem? (i := 0) rfl)) all0)
  have ap3 : ¬ y0_1 < (0 : Int32) := ha1 _ (by simp)
  have aa5 : ¬ y1_1 < (0 : Int32) := ha1 _ (by simp)
  have ao7 : ¬ y2_1 < (0 : Int32) := ha1 _ (by simp)
  show ac0 p e below P (T1.setTop (mkF m 60 #[.val .null, .val (.ref o1), .val (.int (0 : Int32)), .val (.int (0 : Int32)), .val (.int (3 : Int32)), .val (.int (2 : Int32)), .val (.int (3 : Int32)), .unset, .unset, .unset, .unset, .unset, .unset, .unset, .unset, .unset, .unset, .unset, .unset, .unset, .unset] []))
  refine at1 X1 hx hlk hP hrt (hb hby bt3) (by decide) (by decide) ?_
  have hfin : (fun (v : Option Value) (h : Heap) (L : List Loc) => ∃ ys : List Int32, v = none ∧ Fr n0 L ∧ Keep h0 h [o1] ∧ ag0 Z h o1 ys ∧ ys.length = 3 ∧ ∀ y ∈ ys, ¬ y < (0 : Int32)) none T1.heap _ := ⟨[y0_1, y1_1, y2_1], rfl, N1, K1, As1, rfl, (aa2 ap3 (aa2 aa5 (aa2 ao7 am3)))⟩
  exact hfin
theorem da9 (m : MethodId) (o0 : Addr) : entryFrame m #[(.ref o0), (.int (0 : Int32)), (.int (0 : Int32)), (.int (3 : Int32))] 7 = mkF m 0 #[.val (.ref o0), .val (.int (0 : Int32)), .val (.int (0 : Int32)), .val (.int (3 : Int32)), .unset, .unset, .unset] [] := by first | (simp [entryFrame, mkF, argsToLocals, Value.category]; done) | rfl
set_option maxRecDepth 65536 in
set_option maxHeartbeats 40000000 in
theorem ej1 (l : Launch) (Z : State) (a0 : Array Value) (hw : ∀ d ∈ tables_1, d.before a0 Z = true) (ws : List Jvm.Cond) (o0 : Addr) (c0 : Int32) (c1 : Int32) (c2 : Int32) (h0 : Heap) (n0 : Nat) (Z0 : n0 ≤ h0.size) (A_o0 : ag0 Z h0 o0 [c0, c1, c2]) (ab1 : n0 ≤ o0) (hn0 : ¬ (c0 < (0 : Int32))) (hn1 : ¬ (c1 < (0 : Int32))) (hn2 : ¬ (c2 < (0 : Int32))) :
    as0 l Z (⟨z_s7, "sort", "([IIII)V"⟩ : MethodName) jdk_2529_method_3_code 7 none ws ({ frames := 2, cells := 0, slots := 0, locals := 49 } : Room) #[(.ref o0), (.int (0 : Int32)), (.int (0 : Int32)), (.int (3 : Int32))] h0 (fun (v : Option Value) (h : Heap) (L : List Loc) => ∃ ys : List Int32, v = none ∧ Fr n0 L ∧ Keep h0 h [o0] ∧ ag0 Z h o0 ys ∧ ys.length = 3 ∧ ∀ y ∈ ys, ¬ y < (0 : Int32)) := by
  refine aq0 (plainFor_of_name aj1) ?_
  intro p e s m below meth c s₁ P hx hby hml hrt hlk hown hnm hZ X0 e0 hP
  have N0 := Fr.nil n0
  have K0 := Keep.refl h0 [o0]
  have hml' : c.maxLocals = 7 := hml
  refine ar0 (da9 m o0) ?_
  show ac0 p e below P (s₁.setTop (mkF m 0 #[.val (.ref o0), .val (.int (0 : Int32)), .val (.int (0 : Int32)), .val (.int (3 : Int32)), .unset, .unset, .unset] []))
  refine ae0 X0 hx (hb hby bd6) rfl ?_
  refine ae0 X0 hx (hb hby be6) rfl ?_
  refine ar2 X0 hx (hb hby bf6) (z := (3 : Int32)) rfl ?_
  refine ai1 X0 hx (hb hby bg6) (l' := #[.val (.ref o0), .val (.int (0 : Int32)), .val (.int (0 : Int32)), .val (.int (3 : Int32)), .val (.int (3 : Int32)), .unset, .unset]) rfl ?_
  refine ae0 X0 hx (hb hby bh6) rfl ?_
  refine am0 X0 hx (hb hby bi6) (z := (1 : Int32)) rfl ?_
  refine au0 X0 hx (pc' := 68) (hb hby bj6) (flt (by decide : ¬ ((1 : Int32) < (0 : Int32)))).2.2.2 ?_
  refine ai8 X0 hx (hb hby bu3) ?_
  refine ab0 X0 hx (hb hby bv3) rfl rfl ?_
  refine am0 X0 hx (hb hby bw3) (z := (0 : Int32)) rfl ?_
  refine ae0 X0 hx (hb hby bx3) rfl ?_
  refine ae0 X0 hx (hb hby by3) rfl ?_
  refine af1 X0 hx hZ (y := (⟨z_s7, "sort", bq5⟩ : MethodName)) hown (z_w hw 179 rfl) (z_w hw 180 rfl) (z_w hw 177 rfl) (z_w hw 181 rfl) (eh1 l Z a0 hw [] o0 c0 c1 c2 h0 n0 (Nat.le_trans Z0 K0.1) A_o0 ab1 hn0 hn1 hn2) 0 e0 hml' (argsL := [.null, (.ref o0), (.int (0 : Int32)), (.int (0 : Int32)), (.int (3 : Int32))]) (rest := []) (lenOf ai2 rfl) (hb hby bz3) (fun r1 T1 L1 X1 hQ1 => ?_)
  obtain ⟨ys1, rfl, Nq1, Kq1, As1, hl1, ha1⟩ := hQ1
  have N1 := Fr.app N0 Nq1
  obtain ⟨y0_1, y1_1, y2_1, rfl⟩ := bx7 hl1
  have K1 := Keep.trans K0 Kq1 (allS (Or.inl (List.mem_of_getElem? (i := 0) rfl)) all0)
  have ap3 : ¬ y0_1 < (0 : Int32) := ha1 _ (by simp)
  have aa5 : ¬ y1_1 < (0 : Int32) := ha1 _ (by simp)
  have ao7 : ¬ y2_1 < (0 : Int32) := ha1 _ (by simp)
  show ac0 p e below P (T1.setTop (mkF m 76 #[.val (.ref o0), .val (.int (0 : Int32)), .val (.int (0 : Int32)), .val (.int (3 : Int32)), .val (.int (3 : Int32)), .unset, .unset] []))
  refine at1 X1 hx hlk hP hrt (hb hby ba4) (by decide) (by decide) ?_
  have hfin : (fun (v : Option Value) (h : Heap) (L : List Loc) => ∃ ys : List Int32, v = none ∧ Fr n0 L ∧ Keep h0 h [o0] ∧ ag0 Z h o0 ys ∧ ys.length = 3 ∧ ∀ y ∈ ys, ¬ y < (0 : Int32)) none T1.heap _ := ⟨[y0_1, y1_1, y2_1], rfl, N1, K1, As1, rfl, (aa2 ap3 (aa2 aa5 (aa2 ao7 am3)))⟩
  exact hfin
theorem db9 (m : MethodId) (o0 : Addr) : entryFrame m #[(.ref o0)] 1 = mkF m 0 #[.val (.ref o0)] [] := by first | (simp [entryFrame, mkF, argsToLocals, Value.category]; done) | rfl
set_option maxRecDepth 65536 in
set_option maxHeartbeats 40000000 in
theorem ek1 (l : Launch) (Z : State) (a0 : Array Value) (hw : ∀ d ∈ tables_1, d.before a0 Z = true) (ws : List Jvm.Cond) (o0 : Addr) (c0 : Int32) (c1 : Int32) (c2 : Int32) (h0 : Heap) (n0 : Nat) (Z0 : n0 ≤ h0.size) (A_o0 : ag0 Z h0 o0 [c0, c1, c2]) (ab1 : n0 ≤ o0) (hn0 : ¬ (c0 < (0 : Int32))) (hn1 : ¬ (c1 < (0 : Int32))) (hn2 : ¬ (c2 < (0 : Int32))) :
    as0 l Z (⟨z_s5, "sort", "([I)V"⟩ : MethodName) jdk_65_method_2_code 1 none ws ({ frames := 3, cells := 0, slots := 0, locals := 67 } : Room) #[(.ref o0)] h0 (fun (v : Option Value) (h : Heap) (L : List Loc) => ∃ ys : List Int32, v = none ∧ Fr n0 L ∧ Keep h0 h [o0] ∧ ag0 Z h o0 ys ∧ ys.length = 3 ∧ ∀ y ∈ ys, ¬ y < (0 : Int32)) := by
  refine aq0 (plainFor_of_name az0) ?_
  intro p e s m below meth c s₁ P hx hby hml hrt hlk hown hnm hZ X0 e0 hP
  have N0 := Fr.nil n0
  have K0 := Keep.refl h0 [o0]
  have hml' : c.maxLocals = 1 := hml
  refine ar0 (db9 m o0) ?_
  show ac0 p e below P (s₁.setTop (mkF m 0 #[.val (.ref o0)] []))
  refine ab0 X0 hx (hb hby bk6) rfl rfl ?_
  refine am0 X0 hx (hb hby bl6) (z := (0 : Int32)) rfl ?_
  refine am0 X0 hx (hb hby bm6) (z := (0 : Int32)) rfl ?_
  refine ab0 X0 hx (hb hby bn6) rfl rfl ?_
  refine ah1 X0 hx hZ e0 A_o0 (z := (3 : Int32)) rfl (hb hby bo6) ?_
  refine af1 X0 hx hZ (y := (⟨z_s7, "sort", "([IIII)V"⟩ : MethodName)) hown (z_w hw 175 rfl) (z_w hw 176 rfl) (z_w hw 177 rfl) (z_w hw 178 rfl) (ej1 l Z a0 hw [] o0 c0 c1 c2 h0 n0 (Nat.le_trans Z0 K0.1) A_o0 ab1 hn0 hn1 hn2) 0 e0 hml' (argsL := [(.ref o0), (.int (0 : Int32)), (.int (0 : Int32)), (.int (3 : Int32))]) (rest := []) (lenOf am8 rfl) (hb hby bp6) (fun r1 T1 L1 X1 hQ1 => ?_)
  obtain ⟨ys1, rfl, Nq1, Kq1, As1, hl1, ha1⟩ := hQ1
  have N1 := Fr.app N0 Nq1
  obtain ⟨y0_1, y1_1, y2_1, rfl⟩ := bx7 hl1
  have K1 := Keep.trans K0 Kq1 (allS (Or.inl (List.mem_of_getElem? (i := 0) rfl)) all0)
  have ap3 : ¬ y0_1 < (0 : Int32) := ha1 _ (by simp)
  have aa5 : ¬ y1_1 < (0 : Int32) := ha1 _ (by simp)
  have ao7 : ¬ y2_1 < (0 : Int32) := ha1 _ (by simp)
  show ac0 p e below P (T1.setTop (mkF m 8 #[.val (.ref o0)] []))
  refine at1 X1 hx hlk hP hrt (hb hby bq6) (by decide) (by decide) ?_
  have hfin : (fun (v : Option Value) (h : Heap) (L : List Loc) => ∃ ys : List Int32, v = none ∧ Fr n0 L ∧ Keep h0 h [o0] ∧ ag0 Z h o0 ys ∧ ys.length = 3 ∧ ∀ y ∈ ys, ¬ y < (0 : Int32)) none T1.heap _ := ⟨[y0_1, y1_1, y2_1], rfl, N1, K1, As1, rfl, (aa2 ap3 (aa2 aa5 (aa2 ao7 am3)))⟩
  exact hfin
theorem dc9 (m : MethodId) (o0 : Addr) : entryFrame m #[(.ref o0), (.int (0 : Int32)), (.int (4 : Int32))] 6 = mkF m 0 #[.val (.ref o0), .val (.int (0 : Int32)), .val (.int (4 : Int32)), .unset, .unset, .unset] [] := by first | (simp [entryFrame, mkF, argsToLocals, Value.category]; done) | rfl
set_option maxRecDepth 65536 in
set_option maxHeartbeats 40000000 in
theorem el1 (l : Launch) (Z : State) (a0 : Array Value) (hw : ∀ d ∈ tables_1, d.before a0 Z = true) (ws : List Jvm.Cond) (o0 : Addr) (c0 : Int32) (c1 : Int32) (c2 : Int32) (c3 : Int32) (h0 : Heap) (n0 : Nat) (Z0 : n0 ≤ h0.size) (A_o0 : ag0 Z h0 o0 [c0, c1, c2, c3]) (ab1 : n0 ≤ o0) (hn0 : ¬ (c0 < (0 : Int32))) (hn1 : ¬ (c1 < (0 : Int32))) (hn2 : ¬ (c2 < (0 : Int32))) (hn3 : ¬ (c3 < (0 : Int32))) :
    as0 l Z (⟨z_s7, "insertionSort", "([III)V"⟩ : MethodName) jdk_2529_method_6_code 6 none ws ({ frames := 0, cells := 0, slots := 0, locals := 0 } : Room) #[(.ref o0), (.int (0 : Int32)), (.int (4 : Int32))] h0 (fun (v : Option Value) (h : Heap) (L : List Loc) => ∃ ys : List Int32, v = none ∧ Fr n0 L ∧ Keep h0 h [o0] ∧ ag0 Z h o0 ys ∧ ys.length = 4 ∧ ∀ y ∈ ys, ¬ y < (0 : Int32)) := by
  refine aq0 (plainFor_of_name aj1) ?_
  intro p e s m below meth c s₁ P hx hby hml hrt hlk hown hnm hZ X0 e0 hP
  have N0 := Fr.nil n0
  have K0 := Keep.refl h0 [o0]
  have hml' : c.maxLocals = 6 := hml
  refine ar0 (dc9 m o0) ?_
  show ac0 p e below P (s₁.setTop (mkF m 0 #[.val (.ref o0), .val (.int (0 : Int32)), .val (.int (4 : Int32)), .unset, .unset, .unset] []))
  refine ae0 X0 hx (hb hby bv5) rfl ?_
  refine ai1 X0 hx (hb hby bw5) (l' := #[.val (.ref o0), .val (.int (0 : Int32)), .val (.int (4 : Int32)), .unset, .val (.int (0 : Int32)), .unset]) rfl ?_
  have J1 : ∀ (T1 : State) (L1 : List Loc) (h1 : Heap) (va1 vb1 y0_1 y1_1 y2_1 y3_1 : Int32), Stand p l e ({ frames := 0, cells := 0, slots := 0, locals := 0 } : Room) s m #[(.ref o0), (.int (0 : Int32)), (.int (4 : Int32))] below meth c T1 L1 0 0 → T1.heap = h1 → Fr n0 L1 → Keep h0 h1 [o0] → ag0 Z h1 o0 [y0_1, y1_1, y2_1, y3_1] → ¬ y0_1 < (0 : Int32) → ¬ y1_1 < (0 : Int32) → ¬ y2_1 < (0 : Int32) → ¬ y3_1 < (0 : Int32) → ac0 p e below P (T1.setTop (mkF m 3 #[.val (.ref o0), .val (.int (0 : Int32)), .val (.int (4 : Int32)), .val (.int va1), .val (.int (3 : Int32)), .val (.int vb1)] [])) := by
    intro T1 L1 h1 va1 vb1 y0_1 y1_1 y2_1 y3_1 X1 e1 N1 K1 A1 ap3 aa5 ao7 bc7
    refine aq1 X1 hx (hb hby aj6) rfl (l' := #[.val (.ref o0), .val (.int (0 : Int32)), .val (.int (4 : Int32)), .val (.int va1), .val (.int (4 : Int32)), .val (.int vb1)]) rfl ?_
    refine ak0 X1 hx (hb hby ak6) rfl ?_
    refine ae0 X1 hx (hb hby al6) rfl ?_
    refine au0 X1 hx (pc' := 67) (hb hby am6) (flt (by decide : ¬ ((4 : Int32) < (4 : Int32)))).2.1 ?_
    refine at1 X1 hx hlk hP hrt (hb hby bs0) (by decide) (by decide) ?_
    have hfin : (fun (v : Option Value) (h : Heap) (L : List Loc) => ∃ ys : List Int32, v = none ∧ Fr n0 L ∧ Keep h0 h [o0] ∧ ag0 Z h o0 ys ∧ ys.length = 4 ∧ ∀ y ∈ ys, ¬ y < (0 : Int32)) none h1 _ := ⟨[y0_1, y1_1, y2_1, y3_1], rfl, N1, K1, A1, rfl, (aa2 ap3 (aa2 aa5 (aa2 ao7 (aa2 bc7 am3))))⟩
    rw [e1]; exact hfin
  have J2 : ∀ (T2 : State) (L2 : List Loc) (h2 : Heap) (va2 vb2 y0_2 y1_2 y2_2 y3_2 : Int32), Stand p l e ({ frames := 0, cells := 0, slots := 0, locals := 0 } : Room) s m #[(.ref o0), (.int (0 : Int32)), (.int (4 : Int32))] below meth c T2 L2 0 0 → T2.heap = h2 → Fr n0 L2 → Keep h0 h2 [o0] → ag0 Z h2 o0 [y0_2, y1_2, y2_2, y3_2] → ¬ y0_2 < (0 : Int32) → ¬ y1_2 < (0 : Int32) → ¬ y2_2 < (0 : Int32) → ¬ y3_2 < (0 : Int32) → ac0 p e below P (T2.setTop (mkF m 3 #[.val (.ref o0), .val (.int (0 : Int32)), .val (.int (4 : Int32)), .val (.int va2), .val (.int (2 : Int32)), .val (.int vb2)] [])) := by
    intro T2 L2 h2 va2 vb2 y0_2 y1_2 y2_2 y3_2 X2 e2 N2 K2 A2 bn5 bo5 bp5 ck4
    refine aq1 X2 hx (hb hby aj6) rfl (l' := #[.val (.ref o0), .val (.int (0 : Int32)), .val (.int (4 : Int32)), .val (.int va2), .val (.int (3 : Int32)), .val (.int vb2)]) rfl ?_
    refine ak0 X2 hx (hb hby ak6) rfl ?_
    refine ae0 X2 hx (hb hby al6) rfl ?_
    refine av0 X2 hx (hb hby am6) (tlt (by decide : (3 : Int32) < (4 : Int32))).2.1 ?_
    refine ab0 X2 hx (hb hby bt0) rfl rfl ?_
    refine ak0 X2 hx (hb hby bu0) rfl ?_
    refine an6 X2 hx (hb hby bv0) rfl ?_
    refine aj2 X2 hx (hb hby bw0) (l' := #[.val (.ref o0), .val (.int (0 : Int32)), .val (.int (4 : Int32)), .val (.int (3 : Int32)), .val (.int (3 : Int32)), .val (.int vb2)]) rfl ?_
    refine al1 X2 hx hZ e2 A2 (j := (3 : Int32)) (v := y3_2) (i := 3) (by decide) rfl (hb hby bx0) ?_
    refine ai1 X2 hx (hb hby by0) (l' := #[.val (.ref o0), .val (.int (0 : Int32)), .val (.int (4 : Int32)), .val (.int (3 : Int32)), .val (.int (3 : Int32)), .val (.int y3_2)]) rfl ?_
    refine ak0 X2 hx (hb hby bz0) rfl ?_
    refine ab0 X2 hx (hb hby ba1) rfl rfl ?_
    refine ae0 X2 hx (hb hby bb1) rfl ?_
    refine am0 X2 hx (hb hby bc1) (z := (1 : Int32)) rfl ?_
    refine ar2 X2 hx (hb hby bd1) (z := (2 : Int32)) rfl ?_
    refine al1 X2 hx hZ e2 A2 (j := (2 : Int32)) (v := y2_2) (i := 2) (by decide) rfl (hb hby be1) ?_
    by_cases hc3 : y3_2 < y2_2
    · refine av0 X2 hx (hb hby aq5) (tlt hc3).2.1 ?_
      refine aq1 X2 hx (hb hby af4) rfl (l' := #[.val (.ref o0), .val (.int (0 : Int32)), .val (.int (4 : Int32)), .val (.int (2 : Int32)), .val (.int (3 : Int32)), .val (.int y3_2)]) rfl ?_
      refine ae0 X2 hx (hb hby ag4) rfl ?_
      refine ae0 X2 hx (hb hby ah4) rfl ?_
      refine av0 X2 hx (hb hby ai4) (flt (by decide : ¬ ((2 : Int32) < (0 : Int32)))).1 ?_
      refine ak0 X2 hx (hb hby ao6) rfl ?_
      refine ab0 X2 hx (hb hby ap6) rfl rfl ?_
      refine ae0 X2 hx (hb hby aq6) rfl ?_
      refine al1 X2 hx hZ e2 A2 (j := (2 : Int32)) (v := y2_2) (i := 2) (by decide) rfl (hb hby ar6) ?_
      refine av0 X2 hx (hb hby as4) (tlt hc3).2.1 ?_
      refine ab0 X2 hx (hb hby as6) rfl rfl ?_
      refine ae0 X2 hx (hb hby at6) rfl ?_
      refine am0 X2 hx (hb hby au6) (z := (1 : Int32)) rfl ?_
      refine am2 X2 hx (hb hby av6) (z := (3 : Int32)) rfl ?_
      refine ab0 X2 hx (hb hby aw6) rfl rfl ?_
      refine ae0 X2 hx (hb hby ax6) rfl ?_
      refine al1 X2 hx hZ e2 A2 (j := (2 : Int32)) (v := y2_2) (i := 2) (by decide) rfl (hb hby ay6) ?_
      refine ae2 X2 hx hZ e2 A2 (j := (3 : Int32)) (v := y2_2) (i := 3) (by decide) (by show (3 : Nat) < 4; decide) (hb hby az6) (fun T4 h4 X4 e4 W4 B4 => ?_)
      have A4 : ag0 Z h4 o0 [y0_2, y1_2, y2_2, y2_2] := B4
      have N4 := Fr.snoc X4 N2 ab1
      have K4 := Keep.wr K2 W4 (Or.inl (List.mem_of_getElem? (i := 0) rfl))
      refine am1 X4 hx (pc' := 30) (hb hby a7) ?_
      refine aq1 X4 hx (hb hby af4) rfl (l' := #[.val (.ref o0), .val (.int (0 : Int32)), .val (.int (4 : Int32)), .val (.int (1 : Int32)), .val (.int (3 : Int32)), .val (.int y3_2)]) rfl ?_
      refine ae0 X4 hx (hb hby ag4) rfl ?_
      refine ae0 X4 hx (hb hby ah4) rfl ?_
      refine av0 X4 hx (hb hby ai4) (flt (by decide : ¬ ((1 : Int32) < (0 : Int32)))).1 ?_
      refine ak0 X4 hx (hb hby ao6) rfl ?_
      refine ab0 X4 hx (hb hby ap6) rfl rfl ?_
      refine ae0 X4 hx (hb hby aq6) rfl ?_
      refine al1 X4 hx hZ e4 A4 (j := (1 : Int32)) (v := y1_2) (i := 1) (by decide) rfl (hb hby ar6) ?_
      by_cases hc5 : y3_2 < y1_2
      · refine av0 X4 hx (hb hby as4) (tlt hc5).2.1 ?_
        refine ab0 X4 hx (hb hby as6) rfl rfl ?_
        refine ae0 X4 hx (hb hby at6) rfl ?_
        refine am0 X4 hx (hb hby au6) (z := (1 : Int32)) rfl ?_
        refine am2 X4 hx (hb hby av6) (z := (2 : Int32)) rfl ?_
        refine ab0 X4 hx (hb hby aw6) rfl rfl ?_
        refine ae0 X4 hx (hb hby ax6) rfl ?_
        refine al1 X4 hx hZ e4 A4 (j := (1 : Int32)) (v := y1_2) (i := 1) (by decide) rfl (hb hby ay6) ?_
        refine ae2 X4 hx hZ e4 A4 (j := (2 : Int32)) (v := y1_2) (i := 2) (by decide) (by show (2 : Nat) < 4; decide) (hb hby az6) (fun T6 h6 X6 e6 W6 B6 => ?_)
        have A6 : ag0 Z h6 o0 [y0_2, y1_2, y1_2, y2_2] := B6
        have N6 := Fr.snoc X6 N4 ab1
        have K6 := Keep.wr K4 W6 (Or.inl (List.mem_of_getElem? (i := 0) rfl))
        refine am1 X6 hx (pc' := 30) (hb hby a7) ?_
        refine aq1 X6 hx (hb hby af4) rfl (l' := #[.val (.ref o0), .val (.int (0 : Int32)), .val (.int (4 : Int32)), .val (.int (0 : Int32)), .val (.int (3 : Int32)), .val (.int y3_2)]) rfl ?_
        refine ae0 X6 hx (hb hby ag4) rfl ?_
        refine ae0 X6 hx (hb hby ah4) rfl ?_
        refine av0 X6 hx (hb hby ai4) (flt (by decide : ¬ ((0 : Int32) < (0 : Int32)))).1 ?_
        refine ak0 X6 hx (hb hby ao6) rfl ?_
        refine ab0 X6 hx (hb hby ap6) rfl rfl ?_
        refine ae0 X6 hx (hb hby aq6) rfl ?_
        refine al1 X6 hx hZ e6 A6 (j := (0 : Int32)) (v := y0_2) (i := 0) (by decide) rfl (hb hby ar6) ?_
        by_cases hc7 : y3_2 < y0_2
        · refine av0 X6 hx (hb hby as4) (tlt hc7).2.1 ?_
          refine ab0 X6 hx (hb hby as6) rfl rfl ?_
          refine ae0 X6 hx (hb hby at6) rfl ?_
          refine am0 X6 hx (hb hby au6) (z := (1 : Int32)) rfl ?_
          refine am2 X6 hx (hb hby av6) (z := (1 : Int32)) rfl ?_
          refine ab0 X6 hx (hb hby aw6) rfl rfl ?_
          refine ae0 X6 hx (hb hby ax6) rfl ?_
          refine al1 X6 hx hZ e6 A6 (j := (0 : Int32)) (v := y0_2) (i := 0) (by decide) rfl (hb hby ay6) ?_
          refine ae2 X6 hx hZ e6 A6 (j := (1 : Int32)) (v := y0_2) (i := 1) (by decide) (by show (1 : Nat) < 4; decide) (hb hby az6) (fun T8 h8 X8 e8 W8 B8 => ?_)
          have A8 : ag0 Z h8 o0 [y0_2, y0_2, y1_2, y2_2] := B8
          have N8 := Fr.snoc X8 N6 ab1
          have K8 := Keep.wr K6 W8 (Or.inl (List.mem_of_getElem? (i := 0) rfl))
          refine am1 X8 hx (pc' := 30) (hb hby a7) ?_
          refine aq1 X8 hx (hb hby af4) rfl (l' := #[.val (.ref o0), .val (.int (0 : Int32)), .val (.int (4 : Int32)), .val (.int (-1 : Int32)), .val (.int (3 : Int32)), .val (.int y3_2)]) rfl ?_
          refine ae0 X8 hx (hb hby ag4) rfl ?_
          refine ae0 X8 hx (hb hby ah4) rfl ?_
          refine au0 X8 hx (pc' := 57) (hb hby ai4) (tlt (by decide : (-1 : Int32) < (0 : Int32))).1 ?_
          refine ab0 X8 hx (hb hby aa7) rfl rfl ?_
          refine ae0 X8 hx (hb hby ab7) rfl ?_
          refine am0 X8 hx (hb hby ac7) (z := (1 : Int32)) rfl ?_
          refine am2 X8 hx (hb hby ad7) (z := (0 : Int32)) rfl ?_
          refine ak0 X8 hx (hb hby ae7) rfl ?_
          refine ae2 X8 hx hZ e8 A8 (j := (0 : Int32)) (v := y3_2) (i := 0) (by decide) (by show (0 : Nat) < 4; decide) (hb hby af7) (fun T9 h9 X9 e9 W9 B9 => ?_)
          have A9 : ag0 Z h9 o0 [y3_2, y0_2, y1_2, y2_2] := B9
          have N9 := Fr.snoc X9 N8 ab1
          have K9 := Keep.wr K8 W9 (Or.inl (List.mem_of_getElem? (i := 0) rfl))
          refine am1 X9 hx (pc' := 3) (hb hby aj4) ?_
          exact J1 T9 _ h9 (-1 : Int32) y3_2 y3_2 y0_2 y1_2 y2_2 X9 e9 N9 K9 A9 ck4 bn5 bo5 bp5
        · refine au0 X6 hx (pc' := 57) (hb hby as4) (flt hc7).2.1 ?_
          refine ab0 X6 hx (hb hby aa7) rfl rfl ?_
          refine ae0 X6 hx (hb hby ab7) rfl ?_
          refine am0 X6 hx (hb hby ac7) (z := (1 : Int32)) rfl ?_
          refine am2 X6 hx (hb hby ad7) (z := (1 : Int32)) rfl ?_
          refine ak0 X6 hx (hb hby ae7) rfl ?_
          refine ae2 X6 hx hZ e6 A6 (j := (1 : Int32)) (v := y3_2) (i := 1) (by decide) (by show (1 : Nat) < 4; decide) (hb hby af7) (fun T10 h10 X10 e10 W10 B10 => ?_)
          have A10 : ag0 Z h10 o0 [y0_2, y3_2, y1_2, y2_2] := B10
          have N10 := Fr.snoc X10 N6 ab1
          have K10 := Keep.wr K6 W10 (Or.inl (List.mem_of_getElem? (i := 0) rfl))
          refine am1 X10 hx (pc' := 3) (hb hby aj4) ?_
          exact J1 T10 _ h10 (0 : Int32) y3_2 y0_2 y3_2 y1_2 y2_2 X10 e10 N10 K10 A10 bn5 ck4 bo5 bp5
      · refine au0 X4 hx (pc' := 57) (hb hby as4) (flt hc5).2.1 ?_
        refine ab0 X4 hx (hb hby aa7) rfl rfl ?_
        refine ae0 X4 hx (hb hby ab7) rfl ?_
        refine am0 X4 hx (hb hby ac7) (z := (1 : Int32)) rfl ?_
        refine am2 X4 hx (hb hby ad7) (z := (2 : Int32)) rfl ?_
        refine ak0 X4 hx (hb hby ae7) rfl ?_
        refine ae2 X4 hx hZ e4 A4 (j := (2 : Int32)) (v := y3_2) (i := 2) (by decide) (by show (2 : Nat) < 4; decide) (hb hby af7) (fun T11 h11 X11 e11 W11 B11 => ?_)
        have A11 : ag0 Z h11 o0 [y0_2, y1_2, y3_2, y2_2] := B11
        have N11 := Fr.snoc X11 N4 ab1
        have K11 := Keep.wr K4 W11 (Or.inl (List.mem_of_getElem? (i := 0) rfl))
        refine am1 X11 hx (pc' := 3) (hb hby aj4) ?_
        exact J1 T11 _ h11 (1 : Int32) y3_2 y0_2 y1_2 y3_2 y2_2 X11 e11 N11 K11 A11 bn5 bo5 ck4 bp5
    · refine au0 X2 hx (pc' := 64) (hb hby aq5) (flt hc3).2.1 ?_
      refine am1 X2 hx (pc' := 3) (hb hby aj4) ?_
      exact J1 T2 _ h2 (3 : Int32) y3_2 y0_2 y1_2 y2_2 y3_2 X2 e2 N2 K2 A2 bn5 bo5 bp5 ck4
  have J12 : ∀ (T12 : State) (L12 : List Loc) (h12 : Heap) (va12 vb12 y0_12 y1_12 y2_12 y3_12 : Int32), Stand p l e ({ frames := 0, cells := 0, slots := 0, locals := 0 } : Room) s m #[(.ref o0), (.int (0 : Int32)), (.int (4 : Int32))] below meth c T12 L12 0 0 → T12.heap = h12 → Fr n0 L12 → Keep h0 h12 [o0] → ag0 Z h12 o0 [y0_12, y1_12, y2_12, y3_12] → ¬ y0_12 < (0 : Int32) → ¬ y1_12 < (0 : Int32) → ¬ y2_12 < (0 : Int32) → ¬ y3_12 < (0 : Int32) → ac0 p e below P (T12.setTop (mkF m 3 #[.val (.ref o0), .val (.int (0 : Int32)), .val (.int (4 : Int32)), .val (.int va12), .val (.int (1 : Int32)), .val (.int vb12)] [])) := by
    intro T12 L12 h12 va12 vb12 y0_12 y1_12 y2_12 y3_12 X12 e12 N12 K12 A12 cu4 cv4 cw4 cx4
    refine aq1 X12 hx (hb hby aj6) rfl (l' := #[.val (.ref o0), .val (.int (0 : Int32)), .val (.int (4 : Int32)), .val (.int va12), .val (.int (2 : Int32)), .val (.int vb12)]) rfl ?_
    refine ak0 X12 hx (hb hby ak6) rfl ?_
    refine ae0 X12 hx (hb hby al6) rfl ?_
    refine av0 X12 hx (hb hby am6) (tlt (by decide : (2 : Int32) < (4 : Int32))).2.1 ?_
    refine ab0 X12 hx (hb hby bt0) rfl rfl ?_
    refine ak0 X12 hx (hb hby bu0) rfl ?_
    refine an6 X12 hx (hb hby bv0) rfl ?_
    refine aj2 X12 hx (hb hby bw0) (l' := #[.val (.ref o0), .val (.int (0 : Int32)), .val (.int (4 : Int32)), .val (.int (2 : Int32)), .val (.int (2 : Int32)), .val (.int vb12)]) rfl ?_
    refine al1 X12 hx hZ e12 A12 (j := (2 : Int32)) (v := y2_12) (i := 2) (by decide) rfl (hb hby bx0) ?_
    refine ai1 X12 hx (hb hby by0) (l' := #[.val (.ref o0), .val (.int (0 : Int32)), .val (.int (4 : Int32)), .val (.int (2 : Int32)), .val (.int (2 : Int32)), .val (.int y2_12)]) rfl ?_
    refine ak0 X12 hx (hb hby bz0) rfl ?_
    refine ab0 X12 hx (hb hby ba1) rfl rfl ?_
    refine ae0 X12 hx (hb hby bb1) rfl ?_
    refine am0 X12 hx (hb hby bc1) (z := (1 : Int32)) rfl ?_
    refine ar2 X12 hx (hb hby bd1) (z := (1 : Int32)) rfl ?_
    refine al1 X12 hx hZ e12 A12 (j := (1 : Int32)) (v := y1_12) (i := 1) (by decide) rfl (hb hby be1) ?_
    by_cases hc13 : y2_12 < y1_12
    · refine av0 X12 hx (hb hby aq5) (tlt hc13).2.1 ?_
      refine aq1 X12 hx (hb hby af4) rfl (l' := #[.val (.ref o0), .val (.int (0 : Int32)), .val (.int (4 : Int32)), .val (.int (1 : Int32)), .val (.int (2 : Int32)), .val (.int y2_12)]) rfl ?_
      refine ae0 X12 hx (hb hby ag4) rfl ?_
      refine ae0 X12 hx (hb hby ah4) rfl ?_
      refine av0 X12 hx (hb hby ai4) (flt (by decide : ¬ ((1 : Int32) < (0 : Int32)))).1 ?_
      refine ak0 X12 hx (hb hby ao6) rfl ?_
      refine ab0 X12 hx (hb hby ap6) rfl rfl ?_
      refine ae0 X12 hx (hb hby aq6) rfl ?_
      refine al1 X12 hx hZ e12 A12 (j := (1 : Int32)) (v := y1_12) (i := 1) (by decide) rfl (hb hby ar6) ?_
      refine av0 X12 hx (hb hby as4) (tlt hc13).2.1 ?_
      refine ab0 X12 hx (hb hby as6) rfl rfl ?_
      refine ae0 X12 hx (hb hby at6) rfl ?_
      refine am0 X12 hx (hb hby au6) (z := (1 : Int32)) rfl ?_
      refine am2 X12 hx (hb hby av6) (z := (2 : Int32)) rfl ?_
      refine ab0 X12 hx (hb hby aw6) rfl rfl ?_
      refine ae0 X12 hx (hb hby ax6) rfl ?_
      refine al1 X12 hx hZ e12 A12 (j := (1 : Int32)) (v := y1_12) (i := 1) (by decide) rfl (hb hby ay6) ?_
      refine ae2 X12 hx hZ e12 A12 (j := (2 : Int32)) (v := y1_12) (i := 2) (by decide) (by show (2 : Nat) < 4; decide) (hb hby az6) (fun T14 h14 X14 e14 W14 B14 => ?_)
      have A14 : ag0 Z h14 o0 [y0_12, y1_12, y1_12, y3_12] := B14
      have N14 := Fr.snoc X14 N12 ab1
      have K14 := Keep.wr K12 W14 (Or.inl (List.mem_of_getElem? (i := 0) rfl))
      refine am1 X14 hx (pc' := 30) (hb hby a7) ?_
      refine aq1 X14 hx (hb hby af4) rfl (l' := #[.val (.ref o0), .val (.int (0 : Int32)), .val (.int (4 : Int32)), .val (.int (0 : Int32)), .val (.int (2 : Int32)), .val (.int y2_12)]) rfl ?_
      refine ae0 X14 hx (hb hby ag4) rfl ?_
      refine ae0 X14 hx (hb hby ah4) rfl ?_
      refine av0 X14 hx (hb hby ai4) (flt (by decide : ¬ ((0 : Int32) < (0 : Int32)))).1 ?_
      refine ak0 X14 hx (hb hby ao6) rfl ?_
      refine ab0 X14 hx (hb hby ap6) rfl rfl ?_
      refine ae0 X14 hx (hb hby aq6) rfl ?_
      refine al1 X14 hx hZ e14 A14 (j := (0 : Int32)) (v := y0_12) (i := 0) (by decide) rfl (hb hby ar6) ?_
      by_cases hc15 : y2_12 < y0_12
      · refine av0 X14 hx (hb hby as4) (tlt hc15).2.1 ?_
        refine ab0 X14 hx (hb hby as6) rfl rfl ?_
        refine ae0 X14 hx (hb hby at6) rfl ?_
        refine am0 X14 hx (hb hby au6) (z := (1 : Int32)) rfl ?_
        refine am2 X14 hx (hb hby av6) (z := (1 : Int32)) rfl ?_
        refine ab0 X14 hx (hb hby aw6) rfl rfl ?_
        refine ae0 X14 hx (hb hby ax6) rfl ?_
        refine al1 X14 hx hZ e14 A14 (j := (0 : Int32)) (v := y0_12) (i := 0) (by decide) rfl (hb hby ay6) ?_
        refine ae2 X14 hx hZ e14 A14 (j := (1 : Int32)) (v := y0_12) (i := 1) (by decide) (by show (1 : Nat) < 4; decide) (hb hby az6) (fun T16 h16 X16 e16 W16 B16 => ?_)
        have A16 : ag0 Z h16 o0 [y0_12, y0_12, y1_12, y3_12] := B16
        have N16 := Fr.snoc X16 N14 ab1
        have K16 := Keep.wr K14 W16 (Or.inl (List.mem_of_getElem? (i := 0) rfl))
        refine am1 X16 hx (pc' := 30) (hb hby a7) ?_
        refine aq1 X16 hx (hb hby af4) rfl (l' := #[.val (.ref o0), .val (.int (0 : Int32)), .val (.int (4 : Int32)), .val (.int (-1 : Int32)), .val (.int (2 : Int32)), .val (.int y2_12)]) rfl ?_
        refine ae0 X16 hx (hb hby ag4) rfl ?_
        refine ae0 X16 hx (hb hby ah4) rfl ?_
        refine au0 X16 hx (pc' := 57) (hb hby ai4) (tlt (by decide : (-1 : Int32) < (0 : Int32))).1 ?_
        refine ab0 X16 hx (hb hby aa7) rfl rfl ?_
        refine ae0 X16 hx (hb hby ab7) rfl ?_
        refine am0 X16 hx (hb hby ac7) (z := (1 : Int32)) rfl ?_
        refine am2 X16 hx (hb hby ad7) (z := (0 : Int32)) rfl ?_
        refine ak0 X16 hx (hb hby ae7) rfl ?_
        refine ae2 X16 hx hZ e16 A16 (j := (0 : Int32)) (v := y2_12) (i := 0) (by decide) (by show (0 : Nat) < 4; decide) (hb hby af7) (fun T17 h17 X17 e17 W17 B17 => ?_)
        have A17 : ag0 Z h17 o0 [y2_12, y0_12, y1_12, y3_12] := B17
        have N17 := Fr.snoc X17 N16 ab1
        have K17 := Keep.wr K16 W17 (Or.inl (List.mem_of_getElem? (i := 0) rfl))
        refine am1 X17 hx (pc' := 3) (hb hby aj4) ?_
        exact J2 T17 _ h17 (-1 : Int32) y2_12 y2_12 y0_12 y1_12 y3_12 X17 e17 N17 K17 A17 cw4 cu4 cv4 cx4
      · refine au0 X14 hx (pc' := 57) (hb hby as4) (flt hc15).2.1 ?_
        refine ab0 X14 hx (hb hby aa7) rfl rfl ?_
        refine ae0 X14 hx (hb hby ab7) rfl ?_
        refine am0 X14 hx (hb hby ac7) (z := (1 : Int32)) rfl ?_
        refine am2 X14 hx (hb hby ad7) (z := (1 : Int32)) rfl ?_
        refine ak0 X14 hx (hb hby ae7) rfl ?_
        refine ae2 X14 hx hZ e14 A14 (j := (1 : Int32)) (v := y2_12) (i := 1) (by decide) (by show (1 : Nat) < 4; decide) (hb hby af7) (fun T18 h18 X18 e18 W18 B18 => ?_)
        have A18 : ag0 Z h18 o0 [y0_12, y2_12, y1_12, y3_12] := B18
        have N18 := Fr.snoc X18 N14 ab1
        have K18 := Keep.wr K14 W18 (Or.inl (List.mem_of_getElem? (i := 0) rfl))
        refine am1 X18 hx (pc' := 3) (hb hby aj4) ?_
        exact J2 T18 _ h18 (0 : Int32) y2_12 y0_12 y2_12 y1_12 y3_12 X18 e18 N18 K18 A18 cu4 cw4 cv4 cx4
    · refine au0 X12 hx (pc' := 64) (hb hby aq5) (flt hc13).2.1 ?_
      refine am1 X12 hx (pc' := 3) (hb hby aj4) ?_
      exact J2 T12 _ h12 (2 : Int32) y2_12 y0_12 y1_12 y2_12 y3_12 X12 e12 N12 K12 A12 cu4 cv4 cw4 cx4
  refine aq1 X0 hx (hb hby aj6) rfl (l' := #[.val (.ref o0), .val (.int (0 : Int32)), .val (.int (4 : Int32)), .unset, .val (.int (1 : Int32)), .unset]) rfl ?_
  refine ak0 X0 hx (hb hby ak6) rfl ?_
  refine ae0 X0 hx (hb hby al6) rfl ?_
  refine av0 X0 hx (hb hby am6) (tlt (by decide : (1 : Int32) < (4 : Int32))).2.1 ?_
  refine ab0 X0 hx (hb hby bt0) rfl rfl ?_
  refine ak0 X0 hx (hb hby bu0) rfl ?_
  refine an6 X0 hx (hb hby bv0) rfl ?_
  refine aj2 X0 hx (hb hby bw0) (l' := #[.val (.ref o0), .val (.int (0 : Int32)), .val (.int (4 : Int32)), .val (.int (1 : Int32)), .val (.int (1 : Int32)), .unset]) rfl ?_
  refine al1 X0 hx hZ e0 A_o0 (j := (1 : Int32)) (v := c1) (i := 1) (by decide) rfl (hb hby bx0) ?_
  refine ai1 X0 hx (hb hby by0) (l' := #[.val (.ref o0), .val (.int (0 : Int32)), .val (.int (4 : Int32)), .val (.int (1 : Int32)), .val (.int (1 : Int32)), .val (.int c1)]) rfl ?_
  refine ak0 X0 hx (hb hby bz0) rfl ?_
  refine ab0 X0 hx (hb hby ba1) rfl rfl ?_
  refine ae0 X0 hx (hb hby bb1) rfl ?_
  refine am0 X0 hx (hb hby bc1) (z := (1 : Int32)) rfl ?_
  refine ar2 X0 hx (hb hby bd1) (z := (0 : Int32)) rfl ?_
  refine al1 X0 hx hZ e0 A_o0 (j := (0 : Int32)) (v := c0) (i := 0) (by decide) rfl (hb hby be1) ?_
  by_cases hc19 : c1 < c0
  · refine av0 X0 hx (hb hby aq5) (tlt hc19).2.1 ?_
    refine aq1 X0 hx (hb hby af4) rfl (l' := #[.val (.ref o0), .val (.int (0 : Int32)), .val (.int (4 : Int32)), .val (.int (0 : Int32)), .val (.int (1 : Int32)), .val (.int c1)]) rfl ?_
    refine ae0 X0 hx (hb hby ag4) rfl ?_
    refine ae0 X0 hx (hb hby ah4) rfl ?_
    refine av0 X0 hx (hb hby ai4) (flt (by decide : ¬ ((0 : Int32) < (0 : Int32)))).1 ?_
    refine ak0 X0 hx (hb hby ao6) rfl ?_
    refine ab0 X0 hx (hb hby ap6) rfl rfl ?_
    refine ae0 X0 hx (hb hby aq6) rfl ?_
    refine al1 X0 hx hZ e0 A_o0 (j := (0 : Int32)) (v := c0) (i := 0) (by decide) rfl (hb hby ar6) ?_
    refine av0 X0 hx (hb hby as4) (tlt hc19).2.1 ?_
    refine ab0 X0 hx (hb hby as6) rfl rfl ?_
    refine ae0 X0 hx (hb hby at6) rfl ?_
    refine am0 X0 hx (hb hby au6) (z := (1 : Int32)) rfl ?_
    refine am2 X0 hx (hb hby av6) (z := (1 : Int32)) rfl ?_
    refine ab0 X0 hx (hb hby aw6) rfl rfl ?_
    refine ae0 X0 hx (hb hby ax6) rfl ?_
    refine al1 X0 hx hZ e0 A_o0 (j := (0 : Int32)) (v := c0) (i := 0) (by decide) rfl (hb hby ay6) ?_
    refine ae2 X0 hx hZ e0 A_o0 (j := (1 : Int32)) (v := c0) (i := 1) (by decide) (by show (1 : Nat) < 4; decide) (hb hby az6) (fun T20 h20 X20 e20 W20 B20 => ?_)
    have A20 : ag0 Z h20 o0 [c0, c0, c2, c3] := B20
    have N20 := Fr.snoc X20 N0 ab1
    have K20 := Keep.wr K0 W20 (Or.inl (List.mem_of_getElem? (i := 0) rfl))
    refine am1 X20 hx (pc' := 30) (hb hby a7) ?_
    refine aq1 X20 hx (hb hby af4) rfl (l' := #[.val (.ref o0), .val (.int (0 : Int32)), .val (.int (4 : Int32)), .val (.int (-1 : Int32)), .val (.int (1 : Int32)), .val (.int c1)]) rfl ?_
    refine ae0 X20 hx (hb hby ag4) rfl ?_
    refine ae0 X20 hx (hb hby ah4) rfl ?_
    refine au0 X20 hx (pc' := 57) (hb hby ai4) (tlt (by decide : (-1 : Int32) < (0 : Int32))).1 ?_
    refine ab0 X20 hx (hb hby aa7) rfl rfl ?_
    refine ae0 X20 hx (hb hby ab7) rfl ?_
    refine am0 X20 hx (hb hby ac7) (z := (1 : Int32)) rfl ?_
    refine am2 X20 hx (hb hby ad7) (z := (0 : Int32)) rfl ?_
    refine ak0 X20 hx (hb hby ae7) rfl ?_
    refine ae2 X20 hx hZ e20 A20 (j := (0 : Int32)) (v := c1) (i := 0) (by decide) (by show (0 : Nat) < 4; decide) (hb hby af7) (fun T21 h21 X21 e21 W21 B21 => ?_)
    have A21 : ag0 Z h21 o0 [c1, c0, c2, c3] := B21
    have N21 := Fr.snoc X21 N20 ab1
    have K21 := Keep.wr K20 W21 (Or.inl (List.mem_of_getElem? (i := 0) rfl))
    refine am1 X21 hx (pc' := 3) (hb hby aj4) ?_
    exact J12 T21 _ h21 (-1 : Int32) c1 c1 c0 c2 c3 X21 e21 N21 K21 A21 hn1 hn0 hn2 hn3
  · refine au0 X0 hx (pc' := 64) (hb hby aq5) (flt hc19).2.1 ?_
    refine am1 X0 hx (pc' := 3) (hb hby aj4) ?_
    exact J12 s₁ _ h0 (1 : Int32) c1 c0 c1 c2 c3 X0 e0 N0 K0 A_o0 hn0 hn1 hn2 hn3
theorem dd9 (m : MethodId) (o1 : Addr) : entryFrame m #[.null, (.ref o1), (.int (0 : Int32)), (.int (0 : Int32)), (.int (4 : Int32))] 21 = mkF m 0 #[.val .null, .val (.ref o1), .val (.int (0 : Int32)), .val (.int (0 : Int32)), .val (.int (4 : Int32)), .unset, .unset, .unset, .unset, .unset, .unset, .unset, .unset, .unset, .unset, .unset, .unset, .unset, .unset, .unset, .unset] [] := by first | (simp [entryFrame, mkF, argsToLocals, Value.category]; done) | rfl
set_option maxRecDepth 65536 in
set_option maxHeartbeats 40000000 in
theorem em1 (l : Launch) (Z : State) (a0 : Array Value) (hw : ∀ d ∈ tables_1, d.before a0 Z = true) (ws : List Jvm.Cond) (o1 : Addr) (c0 : Int32) (c1 : Int32) (c2 : Int32) (c3 : Int32) (h0 : Heap) (n0 : Nat) (Z0 : n0 ≤ h0.size) (A_o1 : ag0 Z h0 o1 [c0, c1, c2, c3]) (ai6 : n0 ≤ o1) (hn0 : ¬ (c0 < (0 : Int32))) (hn1 : ¬ (c1 < (0 : Int32))) (hn2 : ¬ (c2 < (0 : Int32))) (hn3 : ¬ (c3 < (0 : Int32))) :
    as0 l Z (⟨z_s7, "sort", bq5⟩ : MethodName) jdk_2529_method_4_code 21 none ws ({ frames := 1, cells := 0, slots := 0, locals := 17 } : Room) #[.null, (.ref o1), (.int (0 : Int32)), (.int (0 : Int32)), (.int (4 : Int32))] h0 (fun (v : Option Value) (h : Heap) (L : List Loc) => ∃ ys : List Int32, v = none ∧ Fr n0 L ∧ Keep h0 h [o1] ∧ ag0 Z h o1 ys ∧ ys.length = 4 ∧ ∀ y ∈ ys, ¬ y < (0 : Int32)) := by
  refine aq0 (plainFor_of_name aj1) ?_
  intro p e s m below meth c s₁ P hx hby hml hrt hlk hown hnm hZ X0 e0 hP
  have N0 := Fr.nil n0
  have K0 := Keep.refl h0 [o1]
  have hml' : c.maxLocals = 21 := hml
  refine ar0 (dd9 m o1) ?_
  show ac0 p e below P (s₁.setTop (mkF m 0 #[.val .null, .val (.ref o1), .val (.int (0 : Int32)), .val (.int (0 : Int32)), .val (.int (4 : Int32)), .unset, .unset, .unset, .unset, .unset, .unset, .unset, .unset, .unset, .unset, .unset, .unset, .unset, .unset, .unset, .unset] []))
  refine ak0 X0 hx (hb hby bx5) rfl ?_
  refine am0 X0 hx (hb hby by5) (z := (1 : Int32)) rfl ?_
  refine ar2 X0 hx (hb hby bz5) (z := (3 : Int32)) rfl ?_
  refine ai1 X0 hx (hb hby b6) (l' := #[.val .null, .val (.ref o1), .val (.int (0 : Int32)), .val (.int (0 : Int32)), .val (.int (4 : Int32)), .val (.int (3 : Int32)), .unset, .unset, .unset, .unset, .unset, .unset, .unset, .unset, .unset, .unset, .unset, .unset, .unset, .unset, .unset]) rfl ?_
  refine ak0 X0 hx (hb hby ba6) rfl ?_
  refine ae0 X0 hx (hb hby bb6) rfl ?_
  refine ar2 X0 hx (hb hby bc6) (z := (4 : Int32)) rfl ?_
  refine ai1 X0 hx (hb hby bc3) (l' := #[.val .null, .val (.ref o1), .val (.int (0 : Int32)), .val (.int (0 : Int32)), .val (.int (4 : Int32)), .val (.int (3 : Int32)), .val (.int (4 : Int32)), .unset, .unset, .unset, .unset, .unset, .unset, .unset, .unset, .unset, .unset, .unset, .unset, .unset, .unset]) rfl ?_
  refine ak0 X0 hx (hb hby bd3) rfl ?_
  refine ak8 X0 hx (hb hby be3) (z := (65 : Int32)) rfl ?_
  refine ae0 X0 hx (hb hby bf3) rfl ?_
  refine am2 X0 hx (hb hby bg3) (z := (65 : Int32)) rfl ?_
  refine av0 X0 hx (hb hby bh3) (tlt (by decide : (4 : Int32) < (65 : Int32))).2.1 ?_
  refine ae0 X0 hx (hb hby bi3) rfl ?_
  refine am0 X0 hx (hb hby bj3) (z := (1 : Int32)) rfl ?_
  refine an9 X0 hx (hb hby bk3) (z := (0 : Int32)) rfl ?_
  refine ak4 X0 hx (pc' := 46) (hb hby bl3) ((if0 _ _).trans (flt (by decide : ¬ ((0 : Int32) < (0 : Int32)))).2.2.2) ?_
  refine ak0 X0 hx (hb hby bm3) rfl ?_
  refine ak8 X0 hx (hb hby bn3) (z := (44 : Int32)) rfl ?_
  refine av0 X0 hx (hb hby bo3) (tlt (by decide : (4 : Int32) < (44 : Int32))).2.1 ?_
  refine ab0 X0 hx (hb hby bp3) rfl rfl ?_
  refine ae0 X0 hx (hb hby bq3) rfl ?_
  refine ak0 X0 hx (hb hby br3) rfl ?_
  refine af1 X0 hx hZ (y := (⟨z_s7, "insertionSort", "([III)V"⟩ : MethodName)) hown (z_w hw 182 rfl) (z_w hw 183 rfl) (z_w hw 177 rfl) (z_w hw 184 rfl) (el1 l Z a0 hw [] o1 c0 c1 c2 c3 h0 n0 (Nat.le_trans Z0 K0.1) A_o1 ai6 hn0 hn1 hn2 hn3) 0 e0 hml' (argsL := [(.ref o1), (.int (0 : Int32)), (.int (4 : Int32))]) (rest := []) (lenOf ag9 rfl) (hb hby bs3) (fun r1 T1 L1 X1 hQ1 => ?_)
  obtain ⟨ys1, rfl, Nq1, Kq1, As1, hl1, ha1⟩ := hQ1
  have N1 := Fr.app N0 Nq1
  obtain ⟨y0_1, y1_1, y2_1, y3_1, rfl⟩ := by7 hl1
  have K1 := Keep.trans K0 Kq1 (allS (Or.inl (List.mem_of_getElem? (i := 0) rfl)) all0)
  have ap3 : ¬ y0_1 < (0 : Int32) := ha1 _ (by simp)
  have aa5 : ¬ y1_1 < (0 : Int32) := ha1 _ (by simp)
  have ao7 : ¬ y2_1 < (0 : Int32) := ha1 _ (by simp)
  have bc7 : ¬ y3_1 < (0 : Int32) := ha1 _ (by simp)
  show ac0 p e below P (T1.setTop (mkF m 60 #[.val .null, .val (.ref o1), .val (.int (0 : Int32)), .val (.int (0 : Int32)), .val (.int (4 : Int32)), .val (.int (3 : Int32)), .val (.int (4 : Int32)), .unset, .unset, .unset, .unset, .unset, .unset, .unset, .unset, .unset, .unset, .unset, .unset, .unset, .unset] []))
  refine at1 X1 hx hlk hP hrt (hb hby bt3) (by decide) (by decide) ?_
  have hfin : (fun (v : Option Value) (h : Heap) (L : List Loc) => ∃ ys : List Int32, v = none ∧ Fr n0 L ∧ Keep h0 h [o1] ∧ ag0 Z h o1 ys ∧ ys.length = 4 ∧ ∀ y ∈ ys, ¬ y < (0 : Int32)) none T1.heap _ := ⟨[y0_1, y1_1, y2_1, y3_1], rfl, N1, K1, As1, rfl, (aa2 ap3 (aa2 aa5 (aa2 ao7 (aa2 bc7 am3))))⟩
  exact hfin
theorem de9 (m : MethodId) (o0 : Addr) : entryFrame m #[(.ref o0), (.int (0 : Int32)), (.int (0 : Int32)), (.int (4 : Int32))] 7 = mkF m 0 #[.val (.ref o0), .val (.int (0 : Int32)), .val (.int (0 : Int32)), .val (.int (4 : Int32)), .unset, .unset, .unset] [] := by first | (simp [entryFrame, mkF, argsToLocals, Value.category]; done) | rfl
set_option maxRecDepth 65536 in
set_option maxHeartbeats 40000000 in
theorem en1 (l : Launch) (Z : State) (a0 : Array Value) (hw : ∀ d ∈ tables_1, d.before a0 Z = true) (ws : List Jvm.Cond) (o0 : Addr) (c0 : Int32) (c1 : Int32) (c2 : Int32) (c3 : Int32) (h0 : Heap) (n0 : Nat) (Z0 : n0 ≤ h0.size) (A_o0 : ag0 Z h0 o0 [c0, c1, c2, c3]) (ab1 : n0 ≤ o0) (hn0 : ¬ (c0 < (0 : Int32))) (hn1 : ¬ (c1 < (0 : Int32))) (hn2 : ¬ (c2 < (0 : Int32))) (hn3 : ¬ (c3 < (0 : Int32))) :
    as0 l Z (⟨z_s7, "sort", "([IIII)V"⟩ : MethodName) jdk_2529_method_3_code 7 none ws ({ frames := 2, cells := 0, slots := 0, locals := 49 } : Room) #[(.ref o0), (.int (0 : Int32)), (.int (0 : Int32)), (.int (4 : Int32))] h0 (fun (v : Option Value) (h : Heap) (L : List Loc) => ∃ ys : List Int32, v = none ∧ Fr n0 L ∧ Keep h0 h [o0] ∧ ag0 Z h o0 ys ∧ ys.length = 4 ∧ ∀ y ∈ ys, ¬ y < (0 : Int32)) := by
  refine aq0 (plainFor_of_name aj1) ?_
  intro p e s m below meth c s₁ P hx hby hml hrt hlk hown hnm hZ X0 e0 hP
  have N0 := Fr.nil n0
  have K0 := Keep.refl h0 [o0]
  have hml' : c.maxLocals = 7 := hml
  refine ar0 (de9 m o0) ?_
  show ac0 p e below P (s₁.setTop (mkF m 0 #[.val (.ref o0), .val (.int (0 : Int32)), .val (.int (0 : Int32)), .val (.int (4 : Int32)), .unset, .unset, .unset] []))
  refine ae0 X0 hx (hb hby bd6) rfl ?_
  refine ae0 X0 hx (hb hby be6) rfl ?_
  refine ar2 X0 hx (hb hby bf6) (z := (4 : Int32)) rfl ?_
  refine ai1 X0 hx (hb hby bg6) (l' := #[.val (.ref o0), .val (.int (0 : Int32)), .val (.int (0 : Int32)), .val (.int (4 : Int32)), .val (.int (4 : Int32)), .unset, .unset]) rfl ?_
  refine ae0 X0 hx (hb hby bh6) rfl ?_
  refine am0 X0 hx (hb hby bi6) (z := (1 : Int32)) rfl ?_
  refine au0 X0 hx (pc' := 68) (hb hby bj6) (flt (by decide : ¬ ((1 : Int32) < (0 : Int32)))).2.2.2 ?_
  refine ai8 X0 hx (hb hby bu3) ?_
  refine ab0 X0 hx (hb hby bv3) rfl rfl ?_
  refine am0 X0 hx (hb hby bw3) (z := (0 : Int32)) rfl ?_
  refine ae0 X0 hx (hb hby bx3) rfl ?_
  refine ae0 X0 hx (hb hby by3) rfl ?_
  refine af1 X0 hx hZ (y := (⟨z_s7, "sort", bq5⟩ : MethodName)) hown (z_w hw 179 rfl) (z_w hw 180 rfl) (z_w hw 177 rfl) (z_w hw 181 rfl) (em1 l Z a0 hw [] o0 c0 c1 c2 c3 h0 n0 (Nat.le_trans Z0 K0.1) A_o0 ab1 hn0 hn1 hn2 hn3) 0 e0 hml' (argsL := [.null, (.ref o0), (.int (0 : Int32)), (.int (0 : Int32)), (.int (4 : Int32))]) (rest := []) (lenOf ai2 rfl) (hb hby bz3) (fun r1 T1 L1 X1 hQ1 => ?_)
  obtain ⟨ys1, rfl, Nq1, Kq1, As1, hl1, ha1⟩ := hQ1
  have N1 := Fr.app N0 Nq1
  obtain ⟨y0_1, y1_1, y2_1, y3_1, rfl⟩ := by7 hl1
  have K1 := Keep.trans K0 Kq1 (allS (Or.inl (List.mem_of_getElem? (i := 0) rfl)) all0)
  have ap3 : ¬ y0_1 < (0 : Int32) := ha1 _ (by simp)
  have aa5 : ¬ y1_1 < (0 : Int32) := ha1 _ (by simp)
  have ao7 : ¬ y2_1 < (0 : Int32) := ha1 _ (by simp)
  have bc7 : ¬ y3_1 < (0 : Int32) := ha1 _ (by simp)
  show ac0 p e below P (T1.setTop (mkF m 76 #[.val (.ref o0), .val (.int (0 : Int32)), .val (.int (0 : Int32)), .val (.int (4 : Int32)), .val (.int (4 : Int32)), .unset, .unset] []))
  refine at1 X1 hx hlk hP hrt (hb hby ba4) (by decide) (by decide) ?_
  have hfin : (fun (v : Option Value) (h : Heap) (L : List Loc) => ∃ ys : List Int32, v = none ∧ Fr n0 L ∧ Keep h0 h [o0] ∧ ag0 Z h o0 ys ∧ ys.length = 4 ∧ ∀ y ∈ ys, ¬ y < (0 : Int32)) none T1.heap _ := ⟨[y0_1, y1_1, y2_1, y3_1], rfl, N1, K1, As1, rfl, (aa2 ap3 (aa2 aa5 (aa2 ao7 (aa2 bc7 am3))))⟩
  exact hfin
theorem df9 (m : MethodId) (o0 : Addr) : entryFrame m #[(.ref o0)] 1 = mkF m 0 #[.val (.ref o0)] [] := by first | (simp [entryFrame, mkF, argsToLocals, Value.category]; done) | rfl
set_option maxRecDepth 65536 in
set_option maxHeartbeats 40000000 in
theorem eo1 (l : Launch) (Z : State) (a0 : Array Value) (hw : ∀ d ∈ tables_1, d.before a0 Z = true) (ws : List Jvm.Cond) (o0 : Addr) (c0 : Int32) (c1 : Int32) (c2 : Int32) (c3 : Int32) (h0 : Heap) (n0 : Nat) (Z0 : n0 ≤ h0.size) (A_o0 : ag0 Z h0 o0 [c0, c1, c2, c3]) (ab1 : n0 ≤ o0) (hn0 : ¬ (c0 < (0 : Int32))) (hn1 : ¬ (c1 < (0 : Int32))) (hn2 : ¬ (c2 < (0 : Int32))) (hn3 : ¬ (c3 < (0 : Int32))) :
    as0 l Z (⟨z_s5, "sort", "([I)V"⟩ : MethodName) jdk_65_method_2_code 1 none ws ({ frames := 3, cells := 0, slots := 0, locals := 67 } : Room) #[(.ref o0)] h0 (fun (v : Option Value) (h : Heap) (L : List Loc) => ∃ ys : List Int32, v = none ∧ Fr n0 L ∧ Keep h0 h [o0] ∧ ag0 Z h o0 ys ∧ ys.length = 4 ∧ ∀ y ∈ ys, ¬ y < (0 : Int32)) := by
  refine aq0 (plainFor_of_name az0) ?_
  intro p e s m below meth c s₁ P hx hby hml hrt hlk hown hnm hZ X0 e0 hP
  have N0 := Fr.nil n0
  have K0 := Keep.refl h0 [o0]
  have hml' : c.maxLocals = 1 := hml
  refine ar0 (df9 m o0) ?_
  show ac0 p e below P (s₁.setTop (mkF m 0 #[.val (.ref o0)] []))
  refine ab0 X0 hx (hb hby bk6) rfl rfl ?_
  refine am0 X0 hx (hb hby bl6) (z := (0 : Int32)) rfl ?_
  refine am0 X0 hx (hb hby bm6) (z := (0 : Int32)) rfl ?_
  refine ab0 X0 hx (hb hby bn6) rfl rfl ?_
  refine ah1 X0 hx hZ e0 A_o0 (z := (4 : Int32)) rfl (hb hby bo6) ?_
  refine af1 X0 hx hZ (y := (⟨z_s7, "sort", "([IIII)V"⟩ : MethodName)) hown (z_w hw 175 rfl) (z_w hw 176 rfl) (z_w hw 177 rfl) (z_w hw 178 rfl) (en1 l Z a0 hw [] o0 c0 c1 c2 c3 h0 n0 (Nat.le_trans Z0 K0.1) A_o0 ab1 hn0 hn1 hn2 hn3) 0 e0 hml' (argsL := [(.ref o0), (.int (0 : Int32)), (.int (0 : Int32)), (.int (4 : Int32))]) (rest := []) (lenOf am8 rfl) (hb hby bp6) (fun r1 T1 L1 X1 hQ1 => ?_)
  obtain ⟨ys1, rfl, Nq1, Kq1, As1, hl1, ha1⟩ := hQ1
  have N1 := Fr.app N0 Nq1
  obtain ⟨y0_1, y1_1, y2_1, y3_1, rfl⟩ := by7 hl1
  have K1 := Keep.trans K0 Kq1 (allS (Or.inl (List.mem_of_getElem? (i := 0) rfl)) all0)
  have ap3 : ¬ y0_1 < (0 : Int32) := ha1 _ (by simp)
  have aa5 : ¬ y1_1 < (0 : Int32) := ha1 _ (by simp)
  have ao7 : ¬ y2_1 < (0 : Int32) := ha1 _ (by simp)
  have bc7 : ¬ y3_1 < (0 : Int32) := ha1 _ (by simp)
  show ac0 p e below P (T1.setTop (mkF m 8 #[.val (.ref o0)] []))
  refine at1 X1 hx hlk hP hrt (hb hby bq6) (by decide) (by decide) ?_
  have hfin : (fun (v : Option Value) (h : Heap) (L : List Loc) => ∃ ys : List Int32, v = none ∧ Fr n0 L ∧ Keep h0 h [o0] ∧ ag0 Z h o0 ys ∧ ys.length = 4 ∧ ∀ y ∈ ys, ¬ y < (0 : Int32)) none T1.heap _ := ⟨[y0_1, y1_1, y2_1, y3_1], rfl, N1, K1, As1, rfl, (aa2 ap3 (aa2 aa5 (aa2 ao7 (aa2 bc7 am3))))⟩
  exact hfin
theorem av4 : decode jdk_65_method_123_code 0 = .ok (.iload_n 1, 1) := by decide +kernel
theorem aw4 : decode jdk_65_method_123_code 1 = .ok (.aload_n 0, 1) := by decide +kernel
theorem ax4 : decode jdk_65_method_123_code 2 = .ok (.arraylength, 1) := by decide +kernel
theorem ay4 : decode jdk_65_method_123_code 3 = .ok (.if_icmp .ne 11, 3) := by decide +kernel
theorem cs3 : decode jdk_65_method_123_code 6 = .ok (.aload_n 0, 1) := by decide +kernel
theorem ct3 : decode jdk_65_method_123_code 7 = .ok (.invokevirtual 316, 3) := by decide +kernel
theorem cg1 : decode jdk_65_method_123_code 10 = .ok (.checkcast 317, 3) := by decide +kernel
theorem ch1 : decode jdk_65_method_123_code 13 = .ok (.areturn, 1) := by decide +kernel
theorem cp7 (m : MethodId) (o0 : Addr) : entryFrame m #[(.ref o0), (.int (0 : Int32))] 3 = mkF m 0 #[.val (.ref o0), .val (.int (0 : Int32)), .unset] [] := by first | (simp [entryFrame, mkF, argsToLocals, Value.category]; done) | rfl
set_option maxRecDepth 65536 in
set_option maxHeartbeats 40000000 in
theorem dk3 (l : Launch) (Z : State) (a0 : Array Value) (hw : ∀ d ∈ tables_1, d.before a0 Z = true) (ws : List Jvm.Cond) (o0 : Addr)  (h0 : Heap) (n0 : Nat) (Z0 : n0 ≤ h0.size) (A_o0 : ag0 Z h0 o0 ([] : List Int32)) :
    as0 l Z (⟨z_s5, "copyOf", "([II)[I"⟩ : MethodName) jdk_65_method_123_code 3 (some (.array .int)) ws ({ frames := 1, cells := 1, slots := 4, locals := 45 } : Room) #[(.ref o0), (.int (0 : Int32))] h0 (fun (v : Option Value) (h : Heap) (L : List Loc) => ∃ (br : Addr), v = some (.ref br) ∧ Fr n0 L ∧ Keep h0 h [] ∧ h0.size ≤ br ∧ n0 ≤ br ∧ ag0 Z h br ([] : List Int32)) := by
  refine aq0 (plainFor_of_name az0) ?_
  intro p e s m below meth c s₁ P hx hby hml hrt hlk hown hnm hZ X0 e0 hP
  have N0 := Fr.nil n0
  have K0 := Keep.refl h0 []
  have hml' : c.maxLocals = 3 := hml
  refine ar0 (cp7 m o0) ?_
  show ac0 p e below P (s₁.setTop (mkF m 0 #[.val (.ref o0), .val (.int (0 : Int32)), .unset] []))
  refine ae0 X0 hx (hb hby av4) rfl ?_
  refine ab0 X0 hx (hb hby aw4) rfl rfl ?_
  refine ah1 X0 hx hZ e0 A_o0 (z := (0 : Int32)) rfl (hb hby ax4) ?_
  refine av0 X0 hx (hb hby ay4) (teq (by decide : (0 : Int32) = (0 : Int32))).2 ?_
  refine ab0 X0 hx (hb hby cs3) rfl rfl ?_
  refine ap9 X0 hx hZ hown (z_w hw 202 rfl) (z_w hw 164 rfl) (z_w hw 168 rfl) (z_w hw 166 rfl) (z_w hw 167 rfl) (z_w hw 169 rfl) e0 A_o0 (g := (mkF m 7 #[.val (.ref o0), .val (.int (0 : Int32)), .unset] [(.ref o0)])) rfl (by rw [hml']; rfl) rfl (hb hby ct3) (by decide) 0 0 (by show 2 * 0 + _ ≤ _; exact Nat.le_of_eq rfl) (by decide) (Nat.le_refl _) (by decide) (by decide) (fun T1 h1 X1 e1 E1 B1 => ?_)
  obtain ⟨b1, g1⟩ : ∃ z, z = h0.size := ⟨_, rfl⟩
  rw [← g1] at B1 ⊢
  have ne2 := z_nb A_o0.lt g1
  have ao1 : n0 ≤ b1 := Nat.le_trans (Nat.le_trans Z0 K0.1) (Nat.le_of_eq g1.symm)
  have ay1 : h0.size ≤ b1 := Nat.le_trans K0.1 (Nat.le_of_eq g1.symm)
  have K1 := Keep.ext K0 E1
  have A1 : ag0 Z h1 b1 ([] : List Int32) := B1
  show ac0 p e below P (T1.setTop (mkF m 10 #[.val (.ref o0), .val (.int (0 : Int32)), .unset] [(.ref b1)]))
  obtain ⟨T3, X3, e3, st3⟩ := castY X1 hx hZ hown (z_w hw 203 rfl) e1 (ag0.ins A1) (g := (mkF m 10 #[.val (.ref o0), .val (.int (0 : Int32)), .unset] [(.ref b1)])) rfl rfl (hb hby cg1)
  refine ae1 (fun _ => st3 _) ?_
  show ac0 p e below P (T3.setTop (mkF m 13 #[.val (.ref o0), .val (.int (0 : Int32)), .unset] [(.ref b1)]))
  have Ar4 : ag0 Z h1 b1 ([] : List Int32) := A1
  have hfin : (fun (v : Option Value) (h : Heap) (L : List Loc) => ∃ (br : Addr), v = some (.ref br) ∧ Fr n0 L ∧ Keep h0 h [] ∧ h0.size ≤ br ∧ n0 ≤ br ∧ ag0 Z h br ([] : List Int32)) (some (.ref b1)) h1 _ := ⟨b1, rfl, N0, K1, ay1, ao1, Ar4⟩
  refine as1 X3 hx hlk hP rfl rfl hrt (hb hby ch1) (by decide) (by decide) ?_
  rw [e3]; exact hfin
theorem ar5 : decode jdk_65_method_123_code 14 = .ok (.iload_n 1, 1) := by decide +kernel
theorem as5 : decode jdk_65_method_123_code 15 = .ok (.newarray .int, 2) := by decide +kernel
theorem at5 : decode jdk_65_method_123_code 17 = .ok (.astore_n 2, 1) := by decide +kernel
theorem au5 : decode jdk_65_method_123_code 18 = .ok (.aload_n 0, 1) := by decide +kernel
theorem av5 : decode jdk_65_method_123_code 19 = .ok (.iconst 0, 1) := by decide +kernel
theorem aw5 : decode jdk_65_method_123_code 20 = .ok (.aload_n 2, 1) := by decide +kernel
theorem ax5 : decode jdk_65_method_123_code 21 = .ok (.iconst 0, 1) := by decide +kernel
theorem ay5 : decode jdk_65_method_123_code 22 = .ok (.aload_n 0, 1) := by decide +kernel
theorem az5 : decode jdk_65_method_123_code 23 = .ok (.arraylength, 1) := by decide +kernel
theorem a6 : decode jdk_65_method_123_code 24 = .ok (.iload_n 1, 1) := by decide +kernel
theorem aa6 : decode jdk_65_method_123_code 25 = .ok (.invokestatic 304, 3) := by decide +kernel
theorem ab6 : decode jdk_65_method_123_code 28 = .ok (.invokestatic 150, 3) := by decide +kernel
theorem ac6 : decode jdk_65_method_123_code 31 = .ok (.aload_n 2, 1) := by decide +kernel
theorem ad6 : decode jdk_65_method_123_code 32 = .ok (.areturn, 1) := by decide +kernel
theorem cq7 (m : MethodId) (o0 : Addr) : entryFrame m #[(.ref o0), (.int (1 : Int32))] 3 = mkF m 0 #[.val (.ref o0), .val (.int (1 : Int32)), .unset] [] := by first | (simp [entryFrame, mkF, argsToLocals, Value.category]; done) | rfl
set_option maxRecDepth 65536 in
set_option maxHeartbeats 40000000 in
theorem dl3 (l : Launch) (Z : State) (a0 : Array Value) (hw : ∀ d ∈ tables_1, d.before a0 Z = true) (ws : List Jvm.Cond) (o0 : Addr)  (h0 : Heap) (n0 : Nat) (Z0 : n0 ≤ h0.size) (A_o0 : ag0 Z h0 o0 ([] : List Int32)) :
    as0 l Z (⟨z_s5, "copyOf", "([II)[I"⟩ : MethodName) jdk_65_method_123_code 3 (some (.array .int)) ws ({ frames := 1, cells := 1, slots := 4, locals := 45 } : Room) #[(.ref o0), (.int (1 : Int32))] h0 (fun (v : Option Value) (h : Heap) (L : List Loc) => ∃ (br : Addr), v = some (.ref br) ∧ Fr n0 L ∧ Keep h0 h [] ∧ h0.size ≤ br ∧ n0 ≤ br ∧ ag0 Z h br [(0 : Int32)]) := by
  refine aq0 (plainFor_of_name az0) ?_
  intro p e s m below meth c s₁ P hx hby hml hrt hlk hown hnm hZ X0 e0 hP
  have N0 := Fr.nil n0
  have K0 := Keep.refl h0 []
  have hml' : c.maxLocals = 3 := hml
  refine ar0 (cq7 m o0) ?_
  show ac0 p e below P (s₁.setTop (mkF m 0 #[.val (.ref o0), .val (.int (1 : Int32)), .unset] []))
  refine ae0 X0 hx (hb hby av4) rfl ?_
  refine ab0 X0 hx (hb hby aw4) rfl rfl ?_
  refine ah1 X0 hx hZ e0 A_o0 (z := (0 : Int32)) rfl (hb hby ax4) ?_
  refine au0 X0 hx (pc' := 14) (hb hby ay4) (feq (by decide : ¬ ((1 : Int32) = (0 : Int32)))).2 ?_
  refine ae0 X0 hx (hb hby ar5) rfl ?_
  refine ab9 X0 hx hZ (z_w hw 5 rfl) e0 (j := (1 : Int32)) (n := 1) (by decide) 1 (by decide) (by decide) (by decide) (by decide) (hb hby as5) (fun T1 h1 X1 e1 E1 B1 => ?_)
  obtain ⟨b1, g1⟩ : ∃ z, z = h0.size := ⟨_, rfl⟩
  rw [← g1] at B1 ⊢
  have ne2 := z_nb A_o0.lt g1
  have ao1 : n0 ≤ b1 := Nat.le_trans (Nat.le_trans Z0 K0.1) (Nat.le_of_eq g1.symm)
  have ay1 : h0.size ≤ b1 := Nat.le_trans K0.1 (Nat.le_of_eq g1.symm)
  have K1 := Keep.ext K0 E1
  have A1 : ag0 Z h1 b1 [(0 : Int32)] := B1
  refine av2 X1 hx (hb hby at5) rfl (l' := #[.val (.ref o0), .val (.int (1 : Int32)), .val (.ref b1)]) rfl ?_
  refine ab0 X1 hx (hb hby au5) rfl rfl ?_
  refine am0 X1 hx (hb hby av5) (z := (0 : Int32)) rfl ?_
  refine ab0 X1 hx (hb hby aw5) rfl rfl ?_
  refine am0 X1 hx (hb hby ax5) (z := (0 : Int32)) rfl ?_
  refine ab0 X1 hx (hb hby ay5) rfl rfl ?_
  have G3 := (A_o0.ext E1)
  refine ah1 X1 hx hZ e1 G3 (z := (0 : Int32)) rfl (hb hby az5) ?_
  refine ae0 X1 hx (hb hby a6) rfl ?_
  refine af1 X1 hx hZ (y := (⟨"java/lang/Math", "min", "(II)I"⟩ : MethodName)) hown (z_w hw 114 rfl) (z_w hw 115 rfl) (z_w hw 106 rfl) (z_w hw 116 rfl) (af6 l Z a0 hw [] (0 : Int32) (1 : Int32)  h1 n0 (Nat.le_trans Z0 K1.1) ) 4 e1 hml' (argsL := [(.int (0 : Int32)), (.int (1 : Int32))]) (rest := [(.int (0 : Int32)), (.ref b1), (.int (0 : Int32)), (.ref o0)]) (lenOf ap2 rfl) (hb hby aa6) (fun r4 T4 L4 X4 hQ4 => ?_)
  obtain ⟨rfl, Nq4, eq4⟩ := hQ4
  have N4 := Fr.app N0 Nq4
  show ac0 p e below P (T4.setTop (mkF m 28 #[.val (.ref o0), .val (.int (1 : Int32)), .val (.ref b1)] [(.int (as2 (0 : Int32) (1 : Int32))), (.int (0 : Int32)), (.ref b1), (.int (0 : Int32)), (.ref o0)]))
  rw [show (as2 (0 : Int32) (1 : Int32)) = (0 : Int32) from by decide]
  show ac0 p e below P (T4.setTop (mkF m 28 #[.val (.ref o0), .val (.int (1 : Int32)), .val (.ref b1)] [(.int (0 : Int32)), (.int (0 : Int32)), (.ref b1), (.int (0 : Int32)), (.ref o0)]))
  refine ap4 X4 hx hZ hown (z_w hw 117 rfl) (z_w hw 93 rfl) (z_w hw 91 rfl) (z_w hw 92 rfl) eq4 G3 A1 (sp := 0) (dp := 0) (n := 0) (by decide) (by decide) (by decide) (by simp) (by simp) N4 ao1 (g := (mkF m 28 #[.val (.ref o0), .val (.int (1 : Int32)), .val (.ref b1)] [(.int (0 : Int32)), (.int (0 : Int32)), (.ref b1), (.int (0 : Int32)), (.ref o0)])) rfl (by rw [hml']; rfl) rfl (hb hby ab6) (by decide) 0 (by show 2 * 0 + _ ≤ _; exact Nat.le_of_eq rfl) (by decide) (fun T5 h5 L5 X5 e5 N5 Kq5 B5 => ?_)
  have A5 : ag0 Z h5 b1 [(0 : Int32)] := B5
  have K5 := Keep.trans K1 Kq5 (allS (Or.inr ay1) all0)
  show ac0 p e below P (T5.setTop (mkF m 31 #[.val (.ref o0), .val (.int (1 : Int32)), .val (.ref b1)] []))
  refine ab0 X5 hx (hb hby ac6) rfl rfl ?_
  have Ar6 : ag0 Z h5 b1 [(0 : Int32)] := A5
  have hfin : (fun (v : Option Value) (h : Heap) (L : List Loc) => ∃ (br : Addr), v = some (.ref br) ∧ Fr n0 L ∧ Keep h0 h [] ∧ h0.size ≤ br ∧ n0 ≤ br ∧ ag0 Z h br [(0 : Int32)]) (some (.ref b1)) h5 _ := ⟨b1, rfl, N5, K5, ay1, ao1, Ar6⟩
  refine as1 X5 hx hlk hP rfl rfl hrt (hb hby ad6) (by decide) (by decide) ?_
  rw [e5]; exact hfin
theorem cr7 (m : MethodId) (o0 : Addr) : entryFrame m #[(.ref o0), (.int (2 : Int32))] 3 = mkF m 0 #[.val (.ref o0), .val (.int (2 : Int32)), .unset] [] := by first | (simp [entryFrame, mkF, argsToLocals, Value.category]; done) | rfl
set_option maxRecDepth 65536 in
set_option maxHeartbeats 40000000 in
theorem dm3 (l : Launch) (Z : State) (a0 : Array Value) (hw : ∀ d ∈ tables_1, d.before a0 Z = true) (ws : List Jvm.Cond) (o0 : Addr)  (h0 : Heap) (n0 : Nat) (Z0 : n0 ≤ h0.size) (A_o0 : ag0 Z h0 o0 ([] : List Int32)) :
    as0 l Z (⟨z_s5, "copyOf", "([II)[I"⟩ : MethodName) jdk_65_method_123_code 3 (some (.array .int)) ws ({ frames := 1, cells := 1, slots := 4, locals := 45 } : Room) #[(.ref o0), (.int (2 : Int32))] h0 (fun (v : Option Value) (h : Heap) (L : List Loc) => ∃ (br : Addr), v = some (.ref br) ∧ Fr n0 L ∧ Keep h0 h [] ∧ h0.size ≤ br ∧ n0 ≤ br ∧ ag0 Z h br [(0 : Int32), (0 : Int32)]) := by
  refine aq0 (plainFor_of_name az0) ?_
  intro p e s m below meth c s₁ P hx hby hml hrt hlk hown hnm hZ X0 e0 hP
  have N0 := Fr.nil n0
  have K0 := Keep.refl h0 []
  have hml' : c.maxLocals = 3 := hml
  refine ar0 (cr7 m o0) ?_
  show ac0 p e below P (s₁.setTop (mkF m 0 #[.val (.ref o0), .val (.int (2 : Int32)), .unset] []))
  refine ae0 X0 hx (hb hby av4) rfl ?_
  refine ab0 X0 hx (hb hby aw4) rfl rfl ?_
  refine ah1 X0 hx hZ e0 A_o0 (z := (0 : Int32)) rfl (hb hby ax4) ?_
  refine au0 X0 hx (pc' := 14) (hb hby ay4) (feq (by decide : ¬ ((2 : Int32) = (0 : Int32)))).2 ?_
  refine ae0 X0 hx (hb hby ar5) rfl ?_
  refine ab9 X0 hx hZ (z_w hw 5 rfl) e0 (j := (2 : Int32)) (n := 2) (by decide) 2 (by decide) (by decide) (by decide) (by decide) (hb hby as5) (fun T1 h1 X1 e1 E1 B1 => ?_)
  obtain ⟨b1, g1⟩ : ∃ z, z = h0.size := ⟨_, rfl⟩
  rw [← g1] at B1 ⊢
  have ne2 := z_nb A_o0.lt g1
  have ao1 : n0 ≤ b1 := Nat.le_trans (Nat.le_trans Z0 K0.1) (Nat.le_of_eq g1.symm)
  have ay1 : h0.size ≤ b1 := Nat.le_trans K0.1 (Nat.le_of_eq g1.symm)
  have K1 := Keep.ext K0 E1
  have A1 : ag0 Z h1 b1 [(0 : Int32), (0 : Int32)] := B1
  refine av2 X1 hx (hb hby at5) rfl (l' := #[.val (.ref o0), .val (.int (2 : Int32)), .val (.ref b1)]) rfl ?_
  refine ab0 X1 hx (hb hby au5) rfl rfl ?_
  refine am0 X1 hx (hb hby av5) (z := (0 : Int32)) rfl ?_
  refine ab0 X1 hx (hb hby aw5) rfl rfl ?_
  refine am0 X1 hx (hb hby ax5) (z := (0 : Int32)) rfl ?_
  refine ab0 X1 hx (hb hby ay5) rfl rfl ?_
  have G3 := (A_o0.ext E1)
  refine ah1 X1 hx hZ e1 G3 (z := (0 : Int32)) rfl (hb hby az5) ?_
  refine ae0 X1 hx (hb hby a6) rfl ?_
  refine af1 X1 hx hZ (y := (⟨"java/lang/Math", "min", "(II)I"⟩ : MethodName)) hown (z_w hw 114 rfl) (z_w hw 115 rfl) (z_w hw 106 rfl) (z_w hw 116 rfl) (af6 l Z a0 hw [] (0 : Int32) (2 : Int32)  h1 n0 (Nat.le_trans Z0 K1.1) ) 4 e1 hml' (argsL := [(.int (0 : Int32)), (.int (2 : Int32))]) (rest := [(.int (0 : Int32)), (.ref b1), (.int (0 : Int32)), (.ref o0)]) (lenOf ap2 rfl) (hb hby aa6) (fun r4 T4 L4 X4 hQ4 => ?_)
  obtain ⟨rfl, Nq4, eq4⟩ := hQ4
  have N4 := Fr.app N0 Nq4
  show ac0 p e below P (T4.setTop (mkF m 28 #[.val (.ref o0), .val (.int (2 : Int32)), .val (.ref b1)] [(.int (as2 (0 : Int32) (2 : Int32))), (.int (0 : Int32)), (.ref b1), (.int (0 : Int32)), (.ref o0)]))
  rw [show (as2 (0 : Int32) (2 : Int32)) = (0 : Int32) from by decide]
  show ac0 p e below P (T4.setTop (mkF m 28 #[.val (.ref o0), .val (.int (2 : Int32)), .val (.ref b1)] [(.int (0 : Int32)), (.int (0 : Int32)), (.ref b1), (.int (0 : Int32)), (.ref o0)]))
  refine ap4 X4 hx hZ hown (z_w hw 117 rfl) (z_w hw 93 rfl) (z_w hw 91 rfl) (z_w hw 92 rfl) eq4 G3 A1 (sp := 0) (dp := 0) (n := 0) (by decide) (by decide) (by decide) (by simp) (by simp) N4 ao1 (g := (mkF m 28 #[.val (.ref o0), .val (.int (2 : Int32)), .val (.ref b1)] [(.int (0 : Int32)), (.int (0 : Int32)), (.ref b1), (.int (0 : Int32)), (.ref o0)])) rfl (by rw [hml']; rfl) rfl (hb hby ab6) (by decide) 0 (by show 2 * 0 + _ ≤ _; exact Nat.le_of_eq rfl) (by decide) (fun T5 h5 L5 X5 e5 N5 Kq5 B5 => ?_)
  have A5 : ag0 Z h5 b1 [(0 : Int32), (0 : Int32)] := B5
  have K5 := Keep.trans K1 Kq5 (allS (Or.inr ay1) all0)
  show ac0 p e below P (T5.setTop (mkF m 31 #[.val (.ref o0), .val (.int (2 : Int32)), .val (.ref b1)] []))
  refine ab0 X5 hx (hb hby ac6) rfl rfl ?_
  have Ar6 : ag0 Z h5 b1 [(0 : Int32), (0 : Int32)] := A5
  have hfin : (fun (v : Option Value) (h : Heap) (L : List Loc) => ∃ (br : Addr), v = some (.ref br) ∧ Fr n0 L ∧ Keep h0 h [] ∧ h0.size ≤ br ∧ n0 ≤ br ∧ ag0 Z h br [(0 : Int32), (0 : Int32)]) (some (.ref b1)) h5 _ := ⟨b1, rfl, N5, K5, ay1, ao1, Ar6⟩
  refine as1 X5 hx hlk hP rfl rfl hrt (hb hby ad6) (by decide) (by decide) ?_
  rw [e5]; exact hfin
theorem cs7 (m : MethodId) (o0 : Addr) : entryFrame m #[(.ref o0), (.int (1 : Int32))] 3 = mkF m 0 #[.val (.ref o0), .val (.int (1 : Int32)), .unset] [] := by first | (simp [entryFrame, mkF, argsToLocals, Value.category]; done) | rfl
set_option maxRecDepth 65536 in
set_option maxHeartbeats 40000000 in
theorem dn3 (l : Launch) (Z : State) (a0 : Array Value) (hw : ∀ d ∈ tables_1, d.before a0 Z = true) (ws : List Jvm.Cond) (o0 : Addr) (c0 : Int32) (h0 : Heap) (n0 : Nat) (Z0 : n0 ≤ h0.size) (A_o0 : ag0 Z h0 o0 [c0]) :
    as0 l Z (⟨z_s5, "copyOf", "([II)[I"⟩ : MethodName) jdk_65_method_123_code 3 (some (.array .int)) ws ({ frames := 1, cells := 1, slots := 4, locals := 45 } : Room) #[(.ref o0), (.int (1 : Int32))] h0 (fun (v : Option Value) (h : Heap) (L : List Loc) => ∃ (br : Addr), v = some (.ref br) ∧ Fr n0 L ∧ Keep h0 h [] ∧ h0.size ≤ br ∧ n0 ≤ br ∧ ag0 Z h br [c0]) := by
  refine aq0 (plainFor_of_name az0) ?_
  intro p e s m below meth c s₁ P hx hby hml hrt hlk hown hnm hZ X0 e0 hP
  have N0 := Fr.nil n0
  have K0 := Keep.refl h0 []
  have hml' : c.maxLocals = 3 := hml
  refine ar0 (cs7 m o0) ?_
  show ac0 p e below P (s₁.setTop (mkF m 0 #[.val (.ref o0), .val (.int (1 : Int32)), .unset] []))
  refine ae0 X0 hx (hb hby av4) rfl ?_
  refine ab0 X0 hx (hb hby aw4) rfl rfl ?_
  refine ah1 X0 hx hZ e0 A_o0 (z := (1 : Int32)) rfl (hb hby ax4) ?_
  refine av0 X0 hx (hb hby ay4) (teq (by decide : (1 : Int32) = (1 : Int32))).2 ?_
  refine ab0 X0 hx (hb hby cs3) rfl rfl ?_
  refine ap9 X0 hx hZ hown (z_w hw 202 rfl) (z_w hw 164 rfl) (z_w hw 168 rfl) (z_w hw 166 rfl) (z_w hw 167 rfl) (z_w hw 169 rfl) e0 A_o0 (g := (mkF m 7 #[.val (.ref o0), .val (.int (1 : Int32)), .unset] [(.ref o0)])) rfl (by rw [hml']; rfl) rfl (hb hby ct3) (by decide) 0 1 (by show 2 * 0 + _ ≤ _; exact Nat.le_of_eq rfl) (by decide) (Nat.le_refl _) (by decide) (by decide) (fun T1 h1 X1 e1 E1 B1 => ?_)
  obtain ⟨b1, g1⟩ : ∃ z, z = h0.size := ⟨_, rfl⟩
  rw [← g1] at B1 ⊢
  have ne2 := z_nb A_o0.lt g1
  have ao1 : n0 ≤ b1 := Nat.le_trans (Nat.le_trans Z0 K0.1) (Nat.le_of_eq g1.symm)
  have ay1 : h0.size ≤ b1 := Nat.le_trans K0.1 (Nat.le_of_eq g1.symm)
  have K1 := Keep.ext K0 E1
  have A1 : ag0 Z h1 b1 [c0] := B1
  show ac0 p e below P (T1.setTop (mkF m 10 #[.val (.ref o0), .val (.int (1 : Int32)), .unset] [(.ref b1)]))
  obtain ⟨T3, X3, e3, st3⟩ := castY X1 hx hZ hown (z_w hw 203 rfl) e1 (ag0.ins A1) (g := (mkF m 10 #[.val (.ref o0), .val (.int (1 : Int32)), .unset] [(.ref b1)])) rfl rfl (hb hby cg1)
  refine ae1 (fun _ => st3 _) ?_
  show ac0 p e below P (T3.setTop (mkF m 13 #[.val (.ref o0), .val (.int (1 : Int32)), .unset] [(.ref b1)]))
  have Ar4 : ag0 Z h1 b1 [c0] := A1
  have hfin : (fun (v : Option Value) (h : Heap) (L : List Loc) => ∃ (br : Addr), v = some (.ref br) ∧ Fr n0 L ∧ Keep h0 h [] ∧ h0.size ≤ br ∧ n0 ≤ br ∧ ag0 Z h br [c0]) (some (.ref b1)) h1 _ := ⟨b1, rfl, N0, K1, ay1, ao1, Ar4⟩
  refine as1 X3 hx hlk hP rfl rfl hrt (hb hby ch1) (by decide) (by decide) ?_
  rw [e3]; exact hfin
theorem ct7 (m : MethodId) (o0 : Addr) : entryFrame m #[(.ref o0), (.int (2 : Int32))] 3 = mkF m 0 #[.val (.ref o0), .val (.int (2 : Int32)), .unset] [] := by first | (simp [entryFrame, mkF, argsToLocals, Value.category]; done) | rfl
set_option maxRecDepth 65536 in
set_option maxHeartbeats 40000000 in
theorem do3 (l : Launch) (Z : State) (a0 : Array Value) (hw : ∀ d ∈ tables_1, d.before a0 Z = true) (ws : List Jvm.Cond) (o0 : Addr) (c0 : Int32) (h0 : Heap) (n0 : Nat) (Z0 : n0 ≤ h0.size) (A_o0 : ag0 Z h0 o0 [c0]) :
    as0 l Z (⟨z_s5, "copyOf", "([II)[I"⟩ : MethodName) jdk_65_method_123_code 3 (some (.array .int)) ws ({ frames := 1, cells := 1, slots := 4, locals := 45 } : Room) #[(.ref o0), (.int (2 : Int32))] h0 (fun (v : Option Value) (h : Heap) (L : List Loc) => ∃ (br : Addr), v = some (.ref br) ∧ Fr n0 L ∧ Keep h0 h [] ∧ h0.size ≤ br ∧ n0 ≤ br ∧ ag0 Z h br [c0, (0 : Int32)]) := by
  refine aq0 (plainFor_of_name az0) ?_
  intro p e s m below meth c s₁ P hx hby hml hrt hlk hown hnm hZ X0 e0 hP
  have N0 := Fr.nil n0
  have K0 := Keep.refl h0 []
  have hml' : c.maxLocals = 3 := hml
  refine ar0 (ct7 m o0) ?_
  show ac0 p e below P (s₁.setTop (mkF m 0 #[.val (.ref o0), .val (.int (2 : Int32)), .unset] []))
  refine ae0 X0 hx (hb hby av4) rfl ?_
  refine ab0 X0 hx (hb hby aw4) rfl rfl ?_
  refine ah1 X0 hx hZ e0 A_o0 (z := (1 : Int32)) rfl (hb hby ax4) ?_
  refine au0 X0 hx (pc' := 14) (hb hby ay4) (feq (by decide : ¬ ((2 : Int32) = (1 : Int32)))).2 ?_
  refine ae0 X0 hx (hb hby ar5) rfl ?_
  refine ab9 X0 hx hZ (z_w hw 5 rfl) e0 (j := (2 : Int32)) (n := 2) (by decide) 2 (by decide) (by decide) (by decide) (by decide) (hb hby as5) (fun T1 h1 X1 e1 E1 B1 => ?_)
  obtain ⟨b1, g1⟩ : ∃ z, z = h0.size := ⟨_, rfl⟩
  rw [← g1] at B1 ⊢
  have ne2 := z_nb A_o0.lt g1
  have ao1 : n0 ≤ b1 := Nat.le_trans (Nat.le_trans Z0 K0.1) (Nat.le_of_eq g1.symm)
  have ay1 : h0.size ≤ b1 := Nat.le_trans K0.1 (Nat.le_of_eq g1.symm)
  have K1 := Keep.ext K0 E1
  have A1 : ag0 Z h1 b1 [(0 : Int32), (0 : Int32)] := B1
  refine av2 X1 hx (hb hby at5) rfl (l' := #[.val (.ref o0), .val (.int (2 : Int32)), .val (.ref b1)]) rfl ?_
  refine ab0 X1 hx (hb hby au5) rfl rfl ?_
  refine am0 X1 hx (hb hby av5) (z := (0 : Int32)) rfl ?_
  refine ab0 X1 hx (hb hby aw5) rfl rfl ?_
  refine am0 X1 hx (hb hby ax5) (z := (0 : Int32)) rfl ?_
  refine ab0 X1 hx (hb hby ay5) rfl rfl ?_
  have G3 := (A_o0.ext E1)
  refine ah1 X1 hx hZ e1 G3 (z := (1 : Int32)) rfl (hb hby az5) ?_
  refine ae0 X1 hx (hb hby a6) rfl ?_
  refine af1 X1 hx hZ (y := (⟨"java/lang/Math", "min", "(II)I"⟩ : MethodName)) hown (z_w hw 114 rfl) (z_w hw 115 rfl) (z_w hw 106 rfl) (z_w hw 116 rfl) (af6 l Z a0 hw [] (1 : Int32) (2 : Int32)  h1 n0 (Nat.le_trans Z0 K1.1) ) 4 e1 hml' (argsL := [(.int (1 : Int32)), (.int (2 : Int32))]) (rest := [(.int (0 : Int32)), (.ref b1), (.int (0 : Int32)), (.ref o0)]) (lenOf ap2 rfl) (hb hby aa6) (fun r4 T4 L4 X4 hQ4 => ?_)
  obtain ⟨rfl, Nq4, eq4⟩ := hQ4
  have N4 := Fr.app N0 Nq4
  show ac0 p e below P (T4.setTop (mkF m 28 #[.val (.ref o0), .val (.int (2 : Int32)), .val (.ref b1)] [(.int (as2 (1 : Int32) (2 : Int32))), (.int (0 : Int32)), (.ref b1), (.int (0 : Int32)), (.ref o0)]))
  rw [show (as2 (1 : Int32) (2 : Int32)) = (1 : Int32) from by decide]
  show ac0 p e below P (T4.setTop (mkF m 28 #[.val (.ref o0), .val (.int (2 : Int32)), .val (.ref b1)] [(.int (1 : Int32)), (.int (0 : Int32)), (.ref b1), (.int (0 : Int32)), (.ref o0)]))
  refine ap4 X4 hx hZ hown (z_w hw 117 rfl) (z_w hw 93 rfl) (z_w hw 91 rfl) (z_w hw 92 rfl) eq4 G3 A1 (sp := 0) (dp := 0) (n := 1) (by decide) (by decide) (by decide) (by simp) (by simp) N4 ao1 (g := (mkF m 28 #[.val (.ref o0), .val (.int (2 : Int32)), .val (.ref b1)] [(.int (1 : Int32)), (.int (0 : Int32)), (.ref b1), (.int (0 : Int32)), (.ref o0)])) rfl (by rw [hml']; rfl) rfl (hb hby ab6) (by decide) 0 (by show 2 * 0 + _ ≤ _; exact Nat.le_of_eq rfl) (by decide) (fun T5 h5 L5 X5 e5 N5 Kq5 B5 => ?_)
  have A5 : ag0 Z h5 b1 [c0, (0 : Int32)] := B5
  have K5 := Keep.trans K1 Kq5 (allS (Or.inr ay1) all0)
  show ac0 p e below P (T5.setTop (mkF m 31 #[.val (.ref o0), .val (.int (2 : Int32)), .val (.ref b1)] []))
  refine ab0 X5 hx (hb hby ac6) rfl rfl ?_
  have Ar6 : ag0 Z h5 b1 [c0, (0 : Int32)] := A5
  have hfin : (fun (v : Option Value) (h : Heap) (L : List Loc) => ∃ (br : Addr), v = some (.ref br) ∧ Fr n0 L ∧ Keep h0 h [] ∧ h0.size ≤ br ∧ n0 ≤ br ∧ ag0 Z h br [c0, (0 : Int32)]) (some (.ref b1)) h5 _ := ⟨b1, rfl, N5, K5, ay1, ao1, Ar6⟩
  refine as1 X5 hx hlk hP rfl rfl hrt (hb hby ad6) (by decide) (by decide) ?_
  rw [e5]; exact hfin
theorem cu7 (m : MethodId) (o0 : Addr) : entryFrame m #[(.ref o0), (.int (3 : Int32))] 3 = mkF m 0 #[.val (.ref o0), .val (.int (3 : Int32)), .unset] [] := by first | (simp [entryFrame, mkF, argsToLocals, Value.category]; done) | rfl
set_option maxRecDepth 65536 in
set_option maxHeartbeats 40000000 in
theorem dp3 (l : Launch) (Z : State) (a0 : Array Value) (hw : ∀ d ∈ tables_1, d.before a0 Z = true) (ws : List Jvm.Cond) (o0 : Addr) (c0 : Int32) (h0 : Heap) (n0 : Nat) (Z0 : n0 ≤ h0.size) (A_o0 : ag0 Z h0 o0 [c0]) :
    as0 l Z (⟨z_s5, "copyOf", "([II)[I"⟩ : MethodName) jdk_65_method_123_code 3 (some (.array .int)) ws ({ frames := 1, cells := 1, slots := 4, locals := 45 } : Room) #[(.ref o0), (.int (3 : Int32))] h0 (fun (v : Option Value) (h : Heap) (L : List Loc) => ∃ (br : Addr), v = some (.ref br) ∧ Fr n0 L ∧ Keep h0 h [] ∧ h0.size ≤ br ∧ n0 ≤ br ∧ ag0 Z h br [c0, (0 : Int32), (0 : Int32)]) := by
  refine aq0 (plainFor_of_name az0) ?_
  intro p e s m below meth c s₁ P hx hby hml hrt hlk hown hnm hZ X0 e0 hP
  have N0 := Fr.nil n0
  have K0 := Keep.refl h0 []
  have hml' : c.maxLocals = 3 := hml
  refine ar0 (cu7 m o0) ?_
  show ac0 p e below P (s₁.setTop (mkF m 0 #[.val (.ref o0), .val (.int (3 : Int32)), .unset] []))
  refine ae0 X0 hx (hb hby av4) rfl ?_
  refine ab0 X0 hx (hb hby aw4) rfl rfl ?_
  refine ah1 X0 hx hZ e0 A_o0 (z := (1 : Int32)) rfl (hb hby ax4) ?_
  refine au0 X0 hx (pc' := 14) (hb hby ay4) (feq (by decide : ¬ ((3 : Int32) = (1 : Int32)))).2 ?_
  refine ae0 X0 hx (hb hby ar5) rfl ?_
  refine ab9 X0 hx hZ (z_w hw 5 rfl) e0 (j := (3 : Int32)) (n := 3) (by decide) 3 (by decide) (by decide) (by decide) (by decide) (hb hby as5) (fun T1 h1 X1 e1 E1 B1 => ?_)
  obtain ⟨b1, g1⟩ : ∃ z, z = h0.size := ⟨_, rfl⟩
  rw [← g1] at B1 ⊢
  have ne2 := z_nb A_o0.lt g1
  have ao1 : n0 ≤ b1 := Nat.le_trans (Nat.le_trans Z0 K0.1) (Nat.le_of_eq g1.symm)
  have ay1 : h0.size ≤ b1 := Nat.le_trans K0.1 (Nat.le_of_eq g1.symm)
  have K1 := Keep.ext K0 E1
  have A1 : ag0 Z h1 b1 [(0 : Int32), (0 : Int32), (0 : Int32)] := B1
  refine av2 X1 hx (hb hby at5) rfl (l' := #[.val (.ref o0), .val (.int (3 : Int32)), .val (.ref b1)]) rfl ?_
  refine ab0 X1 hx (hb hby au5) rfl rfl ?_
  refine am0 X1 hx (hb hby av5) (z := (0 : Int32)) rfl ?_
  refine ab0 X1 hx (hb hby aw5) rfl rfl ?_
  refine am0 X1 hx (hb hby ax5) (z := (0 : Int32)) rfl ?_
  refine ab0 X1 hx (hb hby ay5) rfl rfl ?_
  have G3 := (A_o0.ext E1)
  refine ah1 X1 hx hZ e1 G3 (z := (1 : Int32)) rfl (hb hby az5) ?_
  refine ae0 X1 hx (hb hby a6) rfl ?_
  refine af1 X1 hx hZ (y := (⟨"java/lang/Math", "min", "(II)I"⟩ : MethodName)) hown (z_w hw 114 rfl) (z_w hw 115 rfl) (z_w hw 106 rfl) (z_w hw 116 rfl) (af6 l Z a0 hw [] (1 : Int32) (3 : Int32)  h1 n0 (Nat.le_trans Z0 K1.1) ) 4 e1 hml' (argsL := [(.int (1 : Int32)), (.int (3 : Int32))]) (rest := [(.int (0 : Int32)), (.ref b1), (.int (0 : Int32)), (.ref o0)]) (lenOf ap2 rfl) (hb hby aa6) (fun r4 T4 L4 X4 hQ4 => ?_)
  obtain ⟨rfl, Nq4, eq4⟩ := hQ4
  have N4 := Fr.app N0 Nq4
  show ac0 p e below P (T4.setTop (mkF m 28 #[.val (.ref o0), .val (.int (3 : Int32)), .val (.ref b1)] [(.int (as2 (1 : Int32) (3 : Int32))), (.int (0 : Int32)), (.ref b1), (.int (0 : Int32)), (.ref o0)]))
  rw [show (as2 (1 : Int32) (3 : Int32)) = (1 : Int32) from by decide]
  show ac0 p e below P (T4.setTop (mkF m 28 #[.val (.ref o0), .val (.int (3 : Int32)), .val (.ref b1)] [(.int (1 : Int32)), (.int (0 : Int32)), (.ref b1), (.int (0 : Int32)), (.ref o0)]))
  refine ap4 X4 hx hZ hown (z_w hw 117 rfl) (z_w hw 93 rfl) (z_w hw 91 rfl) (z_w hw 92 rfl) eq4 G3 A1 (sp := 0) (dp := 0) (n := 1) (by decide) (by decide) (by decide) (by simp) (by simp) N4 ao1 (g := (mkF m 28 #[.val (.ref o0), .val (.int (3 : Int32)), .val (.ref b1)] [(.int (1 : Int32)), (.int (0 : Int32)), (.ref b1), (.int (0 : Int32)), (.ref o0)])) rfl (by rw [hml']; rfl) rfl (hb hby ab6) (by decide) 0 (by show 2 * 0 + _ ≤ _; exact Nat.le_of_eq rfl) (by decide) (fun T5 h5 L5 X5 e5 N5 Kq5 B5 => ?_)
  have A5 : ag0 Z h5 b1 [c0, (0 : Int32), (0 : Int32)] := B5
  have K5 := Keep.trans K1 Kq5 (allS (Or.inr ay1) all0)
  show ac0 p e below P (T5.setTop (mkF m 31 #[.val (.ref o0), .val (.int (3 : Int32)), .val (.ref b1)] []))
  refine ab0 X5 hx (hb hby ac6) rfl rfl ?_
  have Ar6 : ag0 Z h5 b1 [c0, (0 : Int32), (0 : Int32)] := A5
  have hfin : (fun (v : Option Value) (h : Heap) (L : List Loc) => ∃ (br : Addr), v = some (.ref br) ∧ Fr n0 L ∧ Keep h0 h [] ∧ h0.size ≤ br ∧ n0 ≤ br ∧ ag0 Z h br [c0, (0 : Int32), (0 : Int32)]) (some (.ref b1)) h5 _ := ⟨b1, rfl, N5, K5, ay1, ao1, Ar6⟩
  refine as1 X5 hx hlk hP rfl rfl hrt (hb hby ad6) (by decide) (by decide) ?_
  rw [e5]; exact hfin
theorem cv7 (m : MethodId) (o0 : Addr) : entryFrame m #[(.ref o0), (.int (1 : Int32))] 3 = mkF m 0 #[.val (.ref o0), .val (.int (1 : Int32)), .unset] [] := by first | (simp [entryFrame, mkF, argsToLocals, Value.category]; done) | rfl
set_option maxRecDepth 65536 in
set_option maxHeartbeats 40000000 in
theorem dq3 (l : Launch) (Z : State) (a0 : Array Value) (hw : ∀ d ∈ tables_1, d.before a0 Z = true) (ws : List Jvm.Cond) (o0 : Addr) (c0 : Int32) (c1 : Int32) (h0 : Heap) (n0 : Nat) (Z0 : n0 ≤ h0.size) (A_o0 : ag0 Z h0 o0 [c0, c1]) :
    as0 l Z (⟨z_s5, "copyOf", "([II)[I"⟩ : MethodName) jdk_65_method_123_code 3 (some (.array .int)) ws ({ frames := 1, cells := 1, slots := 4, locals := 45 } : Room) #[(.ref o0), (.int (1 : Int32))] h0 (fun (v : Option Value) (h : Heap) (L : List Loc) => ∃ (br : Addr), v = some (.ref br) ∧ Fr n0 L ∧ Keep h0 h [] ∧ h0.size ≤ br ∧ n0 ≤ br ∧ ag0 Z h br [c0]) := by
  refine aq0 (plainFor_of_name az0) ?_
  intro p e s m below meth c s₁ P hx hby hml hrt hlk hown hnm hZ X0 e0 hP
  have N0 := Fr.nil n0
  have K0 := Keep.refl h0 []
  have hml' : c.maxLocals = 3 := hml
  refine ar0 (cv7 m o0) ?_
  show ac0 p e below P (s₁.setTop (mkF m 0 #[.val (.ref o0), .val (.int (1 : Int32)), .unset] []))
  refine ae0 X0 hx (hb hby av4) rfl ?_
  refine ab0 X0 hx (hb hby aw4) rfl rfl ?_
  refine ah1 X0 hx hZ e0 A_o0 (z := (2 : Int32)) rfl (hb hby ax4) ?_
  refine au0 X0 hx (pc' := 14) (hb hby ay4) (feq (by decide : ¬ ((1 : Int32) = (2 : Int32)))).2 ?_
  refine ae0 X0 hx (hb hby ar5) rfl ?_
  refine ab9 X0 hx hZ (z_w hw 5 rfl) e0 (j := (1 : Int32)) (n := 1) (by decide) 1 (by decide) (by decide) (by decide) (by decide) (hb hby as5) (fun T1 h1 X1 e1 E1 B1 => ?_)
  obtain ⟨b1, g1⟩ : ∃ z, z = h0.size := ⟨_, rfl⟩
  rw [← g1] at B1 ⊢
  have ne2 := z_nb A_o0.lt g1
  have ao1 : n0 ≤ b1 := Nat.le_trans (Nat.le_trans Z0 K0.1) (Nat.le_of_eq g1.symm)
  have ay1 : h0.size ≤ b1 := Nat.le_trans K0.1 (Nat.le_of_eq g1.symm)
  have K1 := Keep.ext K0 E1
  have A1 : ag0 Z h1 b1 [(0 : Int32)] := B1
  refine av2 X1 hx (hb hby at5) rfl (l' := #[.val (.ref o0), .val (.int (1 : Int32)), .val (.ref b1)]) rfl ?_
  refine ab0 X1 hx (hb hby au5) rfl rfl ?_
  refine am0 X1 hx (hb hby av5) (z := (0 : Int32)) rfl ?_
  refine ab0 X1 hx (hb hby aw5) rfl rfl ?_
  refine am0 X1 hx (hb hby ax5) (z := (0 : Int32)) rfl ?_
  refine ab0 X1 hx (hb hby ay5) rfl rfl ?_
  have G3 := (A_o0.ext E1)
  refine ah1 X1 hx hZ e1 G3 (z := (2 : Int32)) rfl (hb hby az5) ?_
  refine ae0 X1 hx (hb hby a6) rfl ?_
  refine af1 X1 hx hZ (y := (⟨"java/lang/Math", "min", "(II)I"⟩ : MethodName)) hown (z_w hw 114 rfl) (z_w hw 115 rfl) (z_w hw 106 rfl) (z_w hw 116 rfl) (af6 l Z a0 hw [] (2 : Int32) (1 : Int32)  h1 n0 (Nat.le_trans Z0 K1.1) ) 4 e1 hml' (argsL := [(.int (2 : Int32)), (.int (1 : Int32))]) (rest := [(.int (0 : Int32)), (.ref b1), (.int (0 : Int32)), (.ref o0)]) (lenOf ap2 rfl) (hb hby aa6) (fun r4 T4 L4 X4 hQ4 => ?_)
  obtain ⟨rfl, Nq4, eq4⟩ := hQ4
  have N4 := Fr.app N0 Nq4
  show ac0 p e below P (T4.setTop (mkF m 28 #[.val (.ref o0), .val (.int (1 : Int32)), .val (.ref b1)] [(.int (as2 (2 : Int32) (1 : Int32))), (.int (0 : Int32)), (.ref b1), (.int (0 : Int32)), (.ref o0)]))
  rw [show (as2 (2 : Int32) (1 : Int32)) = (1 : Int32) from by decide]
  show ac0 p e below P (T4.setTop (mkF m 28 #[.val (.ref o0), .val (.int (1 : Int32)), .val (.ref b1)] [(.int (1 : Int32)), (.int (0 : Int32)), (.ref b1), (.int (0 : Int32)), (.ref o0)]))
  refine ap4 X4 hx hZ hown (z_w hw 117 rfl) (z_w hw 93 rfl) (z_w hw 91 rfl) (z_w hw 92 rfl) eq4 G3 A1 (sp := 0) (dp := 0) (n := 1) (by decide) (by decide) (by decide) (by simp) (by simp) N4 ao1 (g := (mkF m 28 #[.val (.ref o0), .val (.int (1 : Int32)), .val (.ref b1)] [(.int (1 : Int32)), (.int (0 : Int32)), (.ref b1), (.int (0 : Int32)), (.ref o0)])) rfl (by rw [hml']; rfl) rfl (hb hby ab6) (by decide) 0 (by show 2 * 0 + _ ≤ _; exact Nat.le_of_eq rfl) (by decide) (fun T5 h5 L5 X5 e5 N5 Kq5 B5 => ?_)
  have A5 : ag0 Z h5 b1 [c0] := B5
  have K5 := Keep.trans K1 Kq5 (allS (Or.inr ay1) all0)
  show ac0 p e below P (T5.setTop (mkF m 31 #[.val (.ref o0), .val (.int (1 : Int32)), .val (.ref b1)] []))
  refine ab0 X5 hx (hb hby ac6) rfl rfl ?_
  have Ar6 : ag0 Z h5 b1 [c0] := A5
  have hfin : (fun (v : Option Value) (h : Heap) (L : List Loc) => ∃ (br : Addr), v = some (.ref br) ∧ Fr n0 L ∧ Keep h0 h [] ∧ h0.size ≤ br ∧ n0 ≤ br ∧ ag0 Z h br [c0]) (some (.ref b1)) h5 _ := ⟨b1, rfl, N5, K5, ay1, ao1, Ar6⟩
  refine as1 X5 hx hlk hP rfl rfl hrt (hb hby ad6) (by decide) (by decide) ?_
  rw [e5]; exact hfin
theorem cw7 (m : MethodId) (o0 : Addr) : entryFrame m #[(.ref o0), (.int (2 : Int32))] 3 = mkF m 0 #[.val (.ref o0), .val (.int (2 : Int32)), .unset] [] := by first | (simp [entryFrame, mkF, argsToLocals, Value.category]; done) | rfl
set_option maxRecDepth 65536 in
set_option maxHeartbeats 40000000 in
theorem dr3 (l : Launch) (Z : State) (a0 : Array Value) (hw : ∀ d ∈ tables_1, d.before a0 Z = true) (ws : List Jvm.Cond) (o0 : Addr) (c0 : Int32) (c1 : Int32) (h0 : Heap) (n0 : Nat) (Z0 : n0 ≤ h0.size) (A_o0 : ag0 Z h0 o0 [c0, c1]) :
    as0 l Z (⟨z_s5, "copyOf", "([II)[I"⟩ : MethodName) jdk_65_method_123_code 3 (some (.array .int)) ws ({ frames := 1, cells := 1, slots := 4, locals := 45 } : Room) #[(.ref o0), (.int (2 : Int32))] h0 (fun (v : Option Value) (h : Heap) (L : List Loc) => ∃ (br : Addr), v = some (.ref br) ∧ Fr n0 L ∧ Keep h0 h [] ∧ h0.size ≤ br ∧ n0 ≤ br ∧ ag0 Z h br [c0, c1]) := by
  refine aq0 (plainFor_of_name az0) ?_
  intro p e s m below meth c s₁ P hx hby hml hrt hlk hown hnm hZ X0 e0 hP
  have N0 := Fr.nil n0
  have K0 := Keep.refl h0 []
  have hml' : c.maxLocals = 3 := hml
  refine ar0 (cw7 m o0) ?_
  show ac0 p e below P (s₁.setTop (mkF m 0 #[.val (.ref o0), .val (.int (2 : Int32)), .unset] []))
  refine ae0 X0 hx (hb hby av4) rfl ?_
  refine ab0 X0 hx (hb hby aw4) rfl rfl ?_
  refine ah1 X0 hx hZ e0 A_o0 (z := (2 : Int32)) rfl (hb hby ax4) ?_
  refine av0 X0 hx (hb hby ay4) (teq (by decide : (2 : Int32) = (2 : Int32))).2 ?_
  refine ab0 X0 hx (hb hby cs3) rfl rfl ?_
  refine ap9 X0 hx hZ hown (z_w hw 202 rfl) (z_w hw 164 rfl) (z_w hw 168 rfl) (z_w hw 166 rfl) (z_w hw 167 rfl) (z_w hw 169 rfl) e0 A_o0 (g := (mkF m 7 #[.val (.ref o0), .val (.int (2 : Int32)), .unset] [(.ref o0)])) rfl (by rw [hml']; rfl) rfl (hb hby ct3) (by decide) 0 2 (by show 2 * 0 + _ ≤ _; exact Nat.le_of_eq rfl) (by decide) (Nat.le_refl _) (by decide) (by decide) (fun T1 h1 X1 e1 E1 B1 => ?_)
  obtain ⟨b1, g1⟩ : ∃ z, z = h0.size := ⟨_, rfl⟩
  rw [← g1] at B1 ⊢
  have ne2 := z_nb A_o0.lt g1
  have ao1 : n0 ≤ b1 := Nat.le_trans (Nat.le_trans Z0 K0.1) (Nat.le_of_eq g1.symm)
  have ay1 : h0.size ≤ b1 := Nat.le_trans K0.1 (Nat.le_of_eq g1.symm)
  have K1 := Keep.ext K0 E1
  have A1 : ag0 Z h1 b1 [c0, c1] := B1
  show ac0 p e below P (T1.setTop (mkF m 10 #[.val (.ref o0), .val (.int (2 : Int32)), .unset] [(.ref b1)]))
  obtain ⟨T3, X3, e3, st3⟩ := castY X1 hx hZ hown (z_w hw 203 rfl) e1 (ag0.ins A1) (g := (mkF m 10 #[.val (.ref o0), .val (.int (2 : Int32)), .unset] [(.ref b1)])) rfl rfl (hb hby cg1)
  refine ae1 (fun _ => st3 _) ?_
  show ac0 p e below P (T3.setTop (mkF m 13 #[.val (.ref o0), .val (.int (2 : Int32)), .unset] [(.ref b1)]))
  have Ar4 : ag0 Z h1 b1 [c0, c1] := A1
  have hfin : (fun (v : Option Value) (h : Heap) (L : List Loc) => ∃ (br : Addr), v = some (.ref br) ∧ Fr n0 L ∧ Keep h0 h [] ∧ h0.size ≤ br ∧ n0 ≤ br ∧ ag0 Z h br [c0, c1]) (some (.ref b1)) h1 _ := ⟨b1, rfl, N0, K1, ay1, ao1, Ar4⟩
  refine as1 X3 hx hlk hP rfl rfl hrt (hb hby ch1) (by decide) (by decide) ?_
  rw [e3]; exact hfin
theorem cx7 (m : MethodId) (o0 : Addr) : entryFrame m #[(.ref o0), (.int (3 : Int32))] 3 = mkF m 0 #[.val (.ref o0), .val (.int (3 : Int32)), .unset] [] := by first | (simp [entryFrame, mkF, argsToLocals, Value.category]; done) | rfl
set_option maxRecDepth 65536 in
set_option maxHeartbeats 40000000 in
theorem ds3 (l : Launch) (Z : State) (a0 : Array Value) (hw : ∀ d ∈ tables_1, d.before a0 Z = true) (ws : List Jvm.Cond) (o0 : Addr) (c0 : Int32) (c1 : Int32) (h0 : Heap) (n0 : Nat) (Z0 : n0 ≤ h0.size) (A_o0 : ag0 Z h0 o0 [c0, c1]) :
    as0 l Z (⟨z_s5, "copyOf", "([II)[I"⟩ : MethodName) jdk_65_method_123_code 3 (some (.array .int)) ws ({ frames := 1, cells := 1, slots := 4, locals := 45 } : Room) #[(.ref o0), (.int (3 : Int32))] h0 (fun (v : Option Value) (h : Heap) (L : List Loc) => ∃ (br : Addr), v = some (.ref br) ∧ Fr n0 L ∧ Keep h0 h [] ∧ h0.size ≤ br ∧ n0 ≤ br ∧ ag0 Z h br [c0, c1, (0 : Int32)]) := by
  refine aq0 (plainFor_of_name az0) ?_
  intro p e s m below meth c s₁ P hx hby hml hrt hlk hown hnm hZ X0 e0 hP
  have N0 := Fr.nil n0
  have K0 := Keep.refl h0 []
  have hml' : c.maxLocals = 3 := hml
  refine ar0 (cx7 m o0) ?_
  show ac0 p e below P (s₁.setTop (mkF m 0 #[.val (.ref o0), .val (.int (3 : Int32)), .unset] []))
  refine ae0 X0 hx (hb hby av4) rfl ?_
  refine ab0 X0 hx (hb hby aw4) rfl rfl ?_
  refine ah1 X0 hx hZ e0 A_o0 (z := (2 : Int32)) rfl (hb hby ax4) ?_
  refine au0 X0 hx (pc' := 14) (hb hby ay4) (feq (by decide : ¬ ((3 : Int32) = (2 : Int32)))).2 ?_
  refine ae0 X0 hx (hb hby ar5) rfl ?_
  refine ab9 X0 hx hZ (z_w hw 5 rfl) e0 (j := (3 : Int32)) (n := 3) (by decide) 3 (by decide) (by decide) (by decide) (by decide) (hb hby as5) (fun T1 h1 X1 e1 E1 B1 => ?_)
  obtain ⟨b1, g1⟩ : ∃ z, z = h0.size := ⟨_, rfl⟩
  rw [← g1] at B1 ⊢
  have ne2 := z_nb A_o0.lt g1
  have ao1 : n0 ≤ b1 := Nat.le_trans (Nat.le_trans Z0 K0.1) (Nat.le_of_eq g1.symm)
  have ay1 : h0.size ≤ b1 := Nat.le_trans K0.1 (Nat.le_of_eq g1.symm)
  have K1 := Keep.ext K0 E1
  have A1 : ag0 Z h1 b1 [(0 : Int32), (0 : Int32), (0 : Int32)] := B1
  refine av2 X1 hx (hb hby at5) rfl (l' := #[.val (.ref o0), .val (.int (3 : Int32)), .val (.ref b1)]) rfl ?_
  refine ab0 X1 hx (hb hby au5) rfl rfl ?_
  refine am0 X1 hx (hb hby av5) (z := (0 : Int32)) rfl ?_
  refine ab0 X1 hx (hb hby aw5) rfl rfl ?_
  refine am0 X1 hx (hb hby ax5) (z := (0 : Int32)) rfl ?_
  refine ab0 X1 hx (hb hby ay5) rfl rfl ?_
  have G3 := (A_o0.ext E1)
  refine ah1 X1 hx hZ e1 G3 (z := (2 : Int32)) rfl (hb hby az5) ?_
  refine ae0 X1 hx (hb hby a6) rfl ?_
  refine af1 X1 hx hZ (y := (⟨"java/lang/Math", "min", "(II)I"⟩ : MethodName)) hown (z_w hw 114 rfl) (z_w hw 115 rfl) (z_w hw 106 rfl) (z_w hw 116 rfl) (af6 l Z a0 hw [] (2 : Int32) (3 : Int32)  h1 n0 (Nat.le_trans Z0 K1.1) ) 4 e1 hml' (argsL := [(.int (2 : Int32)), (.int (3 : Int32))]) (rest := [(.int (0 : Int32)), (.ref b1), (.int (0 : Int32)), (.ref o0)]) (lenOf ap2 rfl) (hb hby aa6) (fun r4 T4 L4 X4 hQ4 => ?_)
  obtain ⟨rfl, Nq4, eq4⟩ := hQ4
  have N4 := Fr.app N0 Nq4
  show ac0 p e below P (T4.setTop (mkF m 28 #[.val (.ref o0), .val (.int (3 : Int32)), .val (.ref b1)] [(.int (as2 (2 : Int32) (3 : Int32))), (.int (0 : Int32)), (.ref b1), (.int (0 : Int32)), (.ref o0)]))
  rw [show (as2 (2 : Int32) (3 : Int32)) = (2 : Int32) from by decide]
  show ac0 p e below P (T4.setTop (mkF m 28 #[.val (.ref o0), .val (.int (3 : Int32)), .val (.ref b1)] [(.int (2 : Int32)), (.int (0 : Int32)), (.ref b1), (.int (0 : Int32)), (.ref o0)]))
  refine ap4 X4 hx hZ hown (z_w hw 117 rfl) (z_w hw 93 rfl) (z_w hw 91 rfl) (z_w hw 92 rfl) eq4 G3 A1 (sp := 0) (dp := 0) (n := 2) (by decide) (by decide) (by decide) (by simp) (by simp) N4 ao1 (g := (mkF m 28 #[.val (.ref o0), .val (.int (3 : Int32)), .val (.ref b1)] [(.int (2 : Int32)), (.int (0 : Int32)), (.ref b1), (.int (0 : Int32)), (.ref o0)])) rfl (by rw [hml']; rfl) rfl (hb hby ab6) (by decide) 0 (by show 2 * 0 + _ ≤ _; exact Nat.le_of_eq rfl) (by decide) (fun T5 h5 L5 X5 e5 N5 Kq5 B5 => ?_)
  have A5 : ag0 Z h5 b1 [c0, c1, (0 : Int32)] := B5
  have K5 := Keep.trans K1 Kq5 (allS (Or.inr ay1) all0)
  show ac0 p e below P (T5.setTop (mkF m 31 #[.val (.ref o0), .val (.int (3 : Int32)), .val (.ref b1)] []))
  refine ab0 X5 hx (hb hby ac6) rfl rfl ?_
  have Ar6 : ag0 Z h5 b1 [c0, c1, (0 : Int32)] := A5
  have hfin : (fun (v : Option Value) (h : Heap) (L : List Loc) => ∃ (br : Addr), v = some (.ref br) ∧ Fr n0 L ∧ Keep h0 h [] ∧ h0.size ≤ br ∧ n0 ≤ br ∧ ag0 Z h br [c0, c1, (0 : Int32)]) (some (.ref b1)) h5 _ := ⟨b1, rfl, N5, K5, ay1, ao1, Ar6⟩
  refine as1 X5 hx hlk hP rfl rfl hrt (hb hby ad6) (by decide) (by decide) ?_
  rw [e5]; exact hfin
theorem cy7 (m : MethodId) (o0 : Addr) : entryFrame m #[(.ref o0), (.int (4 : Int32))] 3 = mkF m 0 #[.val (.ref o0), .val (.int (4 : Int32)), .unset] [] := by first | (simp [entryFrame, mkF, argsToLocals, Value.category]; done) | rfl
set_option maxRecDepth 65536 in
set_option maxHeartbeats 40000000 in
theorem dt3 (l : Launch) (Z : State) (a0 : Array Value) (hw : ∀ d ∈ tables_1, d.before a0 Z = true) (ws : List Jvm.Cond) (o0 : Addr) (c0 : Int32) (c1 : Int32) (h0 : Heap) (n0 : Nat) (Z0 : n0 ≤ h0.size) (A_o0 : ag0 Z h0 o0 [c0, c1]) :
    as0 l Z (⟨z_s5, "copyOf", "([II)[I"⟩ : MethodName) jdk_65_method_123_code 3 (some (.array .int)) ws ({ frames := 1, cells := 1, slots := 4, locals := 45 } : Room) #[(.ref o0), (.int (4 : Int32))] h0 (fun (v : Option Value) (h : Heap) (L : List Loc) => ∃ (br : Addr), v = some (.ref br) ∧ Fr n0 L ∧ Keep h0 h [] ∧ h0.size ≤ br ∧ n0 ≤ br ∧ ag0 Z h br [c0, c1, (0 : Int32), (0 : Int32)]) := by
  refine aq0 (plainFor_of_name az0) ?_
  intro p e s m below meth c s₁ P hx hby hml hrt hlk hown hnm hZ X0 e0 hP
  have N0 := Fr.nil n0
  have K0 := Keep.refl h0 []
  have hml' : c.maxLocals = 3 := hml
  refine ar0 (cy7 m o0) ?_
  show ac0 p e below P (s₁.setTop (mkF m 0 #[.val (.ref o0), .val (.int (4 : Int32)), .unset] []))
  refine ae0 X0 hx (hb hby av4) rfl ?_
  refine ab0 X0 hx (hb hby aw4) rfl rfl ?_
  refine ah1 X0 hx hZ e0 A_o0 (z := (2 : Int32)) rfl (hb hby ax4) ?_
  refine au0 X0 hx (pc' := 14) (hb hby ay4) (feq (by decide : ¬ ((4 : Int32) = (2 : Int32)))).2 ?_
  refine ae0 X0 hx (hb hby ar5) rfl ?_
  refine ab9 X0 hx hZ (z_w hw 5 rfl) e0 (j := (4 : Int32)) (n := 4) (by decide) 4 (by decide) (by decide) (by decide) (by decide) (hb hby as5) (fun T1 h1 X1 e1 E1 B1 => ?_)
  obtain ⟨b1, g1⟩ : ∃ z, z = h0.size := ⟨_, rfl⟩
  rw [← g1] at B1 ⊢
  have ne2 := z_nb A_o0.lt g1
  have ao1 : n0 ≤ b1 := Nat.le_trans (Nat.le_trans Z0 K0.1) (Nat.le_of_eq g1.symm)
  have ay1 : h0.size ≤ b1 := Nat.le_trans K0.1 (Nat.le_of_eq g1.symm)
  have K1 := Keep.ext K0 E1
  have A1 : ag0 Z h1 b1 [(0 : Int32), (0 : Int32), (0 : Int32), (0 : Int32)] := B1
  refine av2 X1 hx (hb hby at5) rfl (l' := #[.val (.ref o0), .val (.int (4 : Int32)), .val (.ref b1)]) rfl ?_
  refine ab0 X1 hx (hb hby au5) rfl rfl ?_
  refine am0 X1 hx (hb hby av5) (z := (0 : Int32)) rfl ?_
  refine ab0 X1 hx (hb hby aw5) rfl rfl ?_
  refine am0 X1 hx (hb hby ax5) (z := (0 : Int32)) rfl ?_
  refine ab0 X1 hx (hb hby ay5) rfl rfl ?_
  have G3 := (A_o0.ext E1)
  refine ah1 X1 hx hZ e1 G3 (z := (2 : Int32)) rfl (hb hby az5) ?_
  refine ae0 X1 hx (hb hby a6) rfl ?_
  refine af1 X1 hx hZ (y := (⟨"java/lang/Math", "min", "(II)I"⟩ : MethodName)) hown (z_w hw 114 rfl) (z_w hw 115 rfl) (z_w hw 106 rfl) (z_w hw 116 rfl) (af6 l Z a0 hw [] (2 : Int32) (4 : Int32)  h1 n0 (Nat.le_trans Z0 K1.1) ) 4 e1 hml' (argsL := [(.int (2 : Int32)), (.int (4 : Int32))]) (rest := [(.int (0 : Int32)), (.ref b1), (.int (0 : Int32)), (.ref o0)]) (lenOf ap2 rfl) (hb hby aa6) (fun r4 T4 L4 X4 hQ4 => ?_)
  obtain ⟨rfl, Nq4, eq4⟩ := hQ4
  have N4 := Fr.app N0 Nq4
  show ac0 p e below P (T4.setTop (mkF m 28 #[.val (.ref o0), .val (.int (4 : Int32)), .val (.ref b1)] [(.int (as2 (2 : Int32) (4 : Int32))), (.int (0 : Int32)), (.ref b1), (.int (0 : Int32)), (.ref o0)]))
  rw [show (as2 (2 : Int32) (4 : Int32)) = (2 : Int32) from by decide]
  show ac0 p e below P (T4.setTop (mkF m 28 #[.val (.ref o0), .val (.int (4 : Int32)), .val (.ref b1)] [(.int (2 : Int32)), (.int (0 : Int32)), (.ref b1), (.int (0 : Int32)), (.ref o0)]))
  refine ap4 X4 hx hZ hown (z_w hw 117 rfl) (z_w hw 93 rfl) (z_w hw 91 rfl) (z_w hw 92 rfl) eq4 G3 A1 (sp := 0) (dp := 0) (n := 2) (by decide) (by decide) (by decide) (by simp) (by simp) N4 ao1 (g := (mkF m 28 #[.val (.ref o0), .val (.int (4 : Int32)), .val (.ref b1)] [(.int (2 : Int32)), (.int (0 : Int32)), (.ref b1), (.int (0 : Int32)), (.ref o0)])) rfl (by rw [hml']; rfl) rfl (hb hby ab6) (by decide) 0 (by show 2 * 0 + _ ≤ _; exact Nat.le_of_eq rfl) (by decide) (fun T5 h5 L5 X5 e5 N5 Kq5 B5 => ?_)
  have A5 : ag0 Z h5 b1 [c0, c1, (0 : Int32), (0 : Int32)] := B5
  have K5 := Keep.trans K1 Kq5 (allS (Or.inr ay1) all0)
  show ac0 p e below P (T5.setTop (mkF m 31 #[.val (.ref o0), .val (.int (4 : Int32)), .val (.ref b1)] []))
  refine ab0 X5 hx (hb hby ac6) rfl rfl ?_
  have Ar6 : ag0 Z h5 b1 [c0, c1, (0 : Int32), (0 : Int32)] := A5
  have hfin : (fun (v : Option Value) (h : Heap) (L : List Loc) => ∃ (br : Addr), v = some (.ref br) ∧ Fr n0 L ∧ Keep h0 h [] ∧ h0.size ≤ br ∧ n0 ≤ br ∧ ag0 Z h br [c0, c1, (0 : Int32), (0 : Int32)]) (some (.ref b1)) h5 _ := ⟨b1, rfl, N5, K5, ay1, ao1, Ar6⟩
  refine as1 X5 hx hlk hP rfl rfl hrt (hb hby ad6) (by decide) (by decide) ?_
  rw [e5]; exact hfin
theorem cz7 (m : MethodId) (o0 : Addr) : entryFrame m #[(.ref o0), (.int (1 : Int32))] 3 = mkF m 0 #[.val (.ref o0), .val (.int (1 : Int32)), .unset] [] := by first | (simp [entryFrame, mkF, argsToLocals, Value.category]; done) | rfl
set_option maxRecDepth 65536 in
set_option maxHeartbeats 40000000 in
theorem du3 (l : Launch) (Z : State) (a0 : Array Value) (hw : ∀ d ∈ tables_1, d.before a0 Z = true) (ws : List Jvm.Cond) (o0 : Addr) (c0 : Int32) (c1 : Int32) (c2 : Int32) (h0 : Heap) (n0 : Nat) (Z0 : n0 ≤ h0.size) (A_o0 : ag0 Z h0 o0 [c0, c1, c2]) :
    as0 l Z (⟨z_s5, "copyOf", "([II)[I"⟩ : MethodName) jdk_65_method_123_code 3 (some (.array .int)) ws ({ frames := 1, cells := 1, slots := 4, locals := 45 } : Room) #[(.ref o0), (.int (1 : Int32))] h0 (fun (v : Option Value) (h : Heap) (L : List Loc) => ∃ (br : Addr), v = some (.ref br) ∧ Fr n0 L ∧ Keep h0 h [] ∧ h0.size ≤ br ∧ n0 ≤ br ∧ ag0 Z h br [c0]) := by
  refine aq0 (plainFor_of_name az0) ?_
  intro p e s m below meth c s₁ P hx hby hml hrt hlk hown hnm hZ X0 e0 hP
  have N0 := Fr.nil n0
  have K0 := Keep.refl h0 []
  have hml' : c.maxLocals = 3 := hml
  refine ar0 (cz7 m o0) ?_
  show ac0 p e below P (s₁.setTop (mkF m 0 #[.val (.ref o0), .val (.int (1 : Int32)), .unset] []))
  refine ae0 X0 hx (hb hby av4) rfl ?_
  refine ab0 X0 hx (hb hby aw4) rfl rfl ?_
  refine ah1 X0 hx hZ e0 A_o0 (z := (3 : Int32)) rfl (hb hby ax4) ?_
  refine au0 X0 hx (pc' := 14) (hb hby ay4) (feq (by decide : ¬ ((1 : Int32) = (3 : Int32)))).2 ?_
  refine ae0 X0 hx (hb hby ar5) rfl ?_
  refine ab9 X0 hx hZ (z_w hw 5 rfl) e0 (j := (1 : Int32)) (n := 1) (by decide) 1 (by decide) (by decide) (by decide) (by decide) (hb hby as5) (fun T1 h1 X1 e1 E1 B1 => ?_)
  obtain ⟨b1, g1⟩ : ∃ z, z = h0.size := ⟨_, rfl⟩
  rw [← g1] at B1 ⊢
  have ne2 := z_nb A_o0.lt g1
  have ao1 : n0 ≤ b1 := Nat.le_trans (Nat.le_trans Z0 K0.1) (Nat.le_of_eq g1.symm)
  have ay1 : h0.size ≤ b1 := Nat.le_trans K0.1 (Nat.le_of_eq g1.symm)
  have K1 := Keep.ext K0 E1
  have A1 : ag0 Z h1 b1 [(0 : Int32)] := B1
  refine av2 X1 hx (hb hby at5) rfl (l' := #[.val (.ref o0), .val (.int (1 : Int32)), .val (.ref b1)]) rfl ?_
  refine ab0 X1 hx (hb hby au5) rfl rfl ?_
  refine am0 X1 hx (hb hby av5) (z := (0 : Int32)) rfl ?_
  refine ab0 X1 hx (hb hby aw5) rfl rfl ?_
  refine am0 X1 hx (hb hby ax5) (z := (0 : Int32)) rfl ?_
  refine ab0 X1 hx (hb hby ay5) rfl rfl ?_
  have G3 := (A_o0.ext E1)
  refine ah1 X1 hx hZ e1 G3 (z := (3 : Int32)) rfl (hb hby az5) ?_
  refine ae0 X1 hx (hb hby a6) rfl ?_
  refine af1 X1 hx hZ (y := (⟨"java/lang/Math", "min", "(II)I"⟩ : MethodName)) hown (z_w hw 114 rfl) (z_w hw 115 rfl) (z_w hw 106 rfl) (z_w hw 116 rfl) (af6 l Z a0 hw [] (3 : Int32) (1 : Int32)  h1 n0 (Nat.le_trans Z0 K1.1) ) 4 e1 hml' (argsL := [(.int (3 : Int32)), (.int (1 : Int32))]) (rest := [(.int (0 : Int32)), (.ref b1), (.int (0 : Int32)), (.ref o0)]) (lenOf ap2 rfl) (hb hby aa6) (fun r4 T4 L4 X4 hQ4 => ?_)
  obtain ⟨rfl, Nq4, eq4⟩ := hQ4
  have N4 := Fr.app N0 Nq4
  show ac0 p e below P (T4.setTop (mkF m 28 #[.val (.ref o0), .val (.int (1 : Int32)), .val (.ref b1)] [(.int (as2 (3 : Int32) (1 : Int32))), (.int (0 : Int32)), (.ref b1), (.int (0 : Int32)), (.ref o0)]))
  rw [show (as2 (3 : Int32) (1 : Int32)) = (1 : Int32) from by decide]
  show ac0 p e below P (T4.setTop (mkF m 28 #[.val (.ref o0), .val (.int (1 : Int32)), .val (.ref b1)] [(.int (1 : Int32)), (.int (0 : Int32)), (.ref b1), (.int (0 : Int32)), (.ref o0)]))
  refine ap4 X4 hx hZ hown (z_w hw 117 rfl) (z_w hw 93 rfl) (z_w hw 91 rfl) (z_w hw 92 rfl) eq4 G3 A1 (sp := 0) (dp := 0) (n := 1) (by decide) (by decide) (by decide) (by simp) (by simp) N4 ao1 (g := (mkF m 28 #[.val (.ref o0), .val (.int (1 : Int32)), .val (.ref b1)] [(.int (1 : Int32)), (.int (0 : Int32)), (.ref b1), (.int (0 : Int32)), (.ref o0)])) rfl (by rw [hml']; rfl) rfl (hb hby ab6) (by decide) 0 (by show 2 * 0 + _ ≤ _; exact Nat.le_of_eq rfl) (by decide) (fun T5 h5 L5 X5 e5 N5 Kq5 B5 => ?_)
  have A5 : ag0 Z h5 b1 [c0] := B5
  have K5 := Keep.trans K1 Kq5 (allS (Or.inr ay1) all0)
  show ac0 p e below P (T5.setTop (mkF m 31 #[.val (.ref o0), .val (.int (1 : Int32)), .val (.ref b1)] []))
  refine ab0 X5 hx (hb hby ac6) rfl rfl ?_
  have Ar6 : ag0 Z h5 b1 [c0] := A5
  have hfin : (fun (v : Option Value) (h : Heap) (L : List Loc) => ∃ (br : Addr), v = some (.ref br) ∧ Fr n0 L ∧ Keep h0 h [] ∧ h0.size ≤ br ∧ n0 ≤ br ∧ ag0 Z h br [c0]) (some (.ref b1)) h5 _ := ⟨b1, rfl, N5, K5, ay1, ao1, Ar6⟩
  refine as1 X5 hx hlk hP rfl rfl hrt (hb hby ad6) (by decide) (by decide) ?_
  rw [e5]; exact hfin
theorem c8 (m : MethodId) (o0 : Addr) : entryFrame m #[(.ref o0), (.int (2 : Int32))] 3 = mkF m 0 #[.val (.ref o0), .val (.int (2 : Int32)), .unset] [] := by first | (simp [entryFrame, mkF, argsToLocals, Value.category]; done) | rfl
set_option maxRecDepth 65536 in
set_option maxHeartbeats 40000000 in
theorem cc5 (l : Launch) (Z : State) (a0 : Array Value) (hw : ∀ d ∈ tables_1, d.before a0 Z = true) (ws : List Jvm.Cond) (o0 : Addr) (c0 : Int32) (c1 : Int32) (c2 : Int32) (h0 : Heap) (n0 : Nat) (Z0 : n0 ≤ h0.size) (A_o0 : ag0 Z h0 o0 [c0, c1, c2]) :
    as0 l Z (⟨z_s5, "copyOf", "([II)[I"⟩ : MethodName) jdk_65_method_123_code 3 (some (.array .int)) ws ({ frames := 1, cells := 1, slots := 4, locals := 45 } : Room) #[(.ref o0), (.int (2 : Int32))] h0 (fun (v : Option Value) (h : Heap) (L : List Loc) => ∃ (br : Addr), v = some (.ref br) ∧ Fr n0 L ∧ Keep h0 h [] ∧ h0.size ≤ br ∧ n0 ≤ br ∧ ag0 Z h br [c0, c1]) := by
  refine aq0 (plainFor_of_name az0) ?_
  intro p e s m below meth c s₁ P hx hby hml hrt hlk hown hnm hZ X0 e0 hP
  have N0 := Fr.nil n0
  have K0 := Keep.refl h0 []
  have hml' : c.maxLocals = 3 := hml
  refine ar0 (c8 m o0) ?_
  show ac0 p e below P (s₁.setTop (mkF m 0 #[.val (.ref o0), .val (.int (2 : Int32)), .unset] []))
  refine ae0 X0 hx (hb hby av4) rfl ?_
  refine ab0 X0 hx (hb hby aw4) rfl rfl ?_
  refine ah1 X0 hx hZ e0 A_o0 (z := (3 : Int32)) rfl (hb hby ax4) ?_
  refine au0 X0 hx (pc' := 14) (hb hby ay4) (feq (by decide : ¬ ((2 : Int32) = (3 : Int32)))).2 ?_
  refine ae0 X0 hx (hb hby ar5) rfl ?_
  refine ab9 X0 hx hZ (z_w hw 5 rfl) e0 (j := (2 : Int32)) (n := 2) (by decide) 2 (by decide) (by decide) (by decide) (by decide) (hb hby as5) (fun T1 h1 X1 e1 E1 B1 => ?_)
  obtain ⟨b1, g1⟩ : ∃ z, z = h0.size := ⟨_, rfl⟩
  rw [← g1] at B1 ⊢
  have ne2 := z_nb A_o0.lt g1
  have ao1 : n0 ≤ b1 := Nat.le_trans (Nat.le_trans Z0 K0.1) (Nat.le_of_eq g1.symm)
  have ay1 : h0.size ≤ b1 := Nat.le_trans K0.1 (Nat.le_of_eq g1.symm)
  have K1 := Keep.ext K0 E1
  have A1 : ag0 Z h1 b1 [(0 : Int32), (0 : Int32)] := B1
  refine av2 X1 hx (hb hby at5) rfl (l' := #[.val (.ref o0), .val (.int (2 : Int32)), .val (.ref b1)]) rfl ?_
  refine ab0 X1 hx (hb hby au5) rfl rfl ?_
  refine am0 X1 hx (hb hby av5) (z := (0 : Int32)) rfl ?_
  refine ab0 X1 hx (hb hby aw5) rfl rfl ?_
  refine am0 X1 hx (hb hby ax5) (z := (0 : Int32)) rfl ?_
  refine ab0 X1 hx (hb hby ay5) rfl rfl ?_
  have G3 := (A_o0.ext E1)
  refine ah1 X1 hx hZ e1 G3 (z := (3 : Int32)) rfl (hb hby az5) ?_
  refine ae0 X1 hx (hb hby a6) rfl ?_
  refine af1 X1 hx hZ (y := (⟨"java/lang/Math", "min", "(II)I"⟩ : MethodName)) hown (z_w hw 114 rfl) (z_w hw 115 rfl) (z_w hw 106 rfl) (z_w hw 116 rfl) (af6 l Z a0 hw [] (3 : Int32) (2 : Int32)  h1 n0 (Nat.le_trans Z0 K1.1) ) 4 e1 hml' (argsL := [(.int (3 : Int32)), (.int (2 : Int32))]) (rest := [(.int (0 : Int32)), (.ref b1), (.int (0 : Int32)), (.ref o0)]) (lenOf ap2 rfl) (hb hby aa6) (fun r4 T4 L4 X4 hQ4 => ?_)
  obtain ⟨rfl, Nq4, eq4⟩ := hQ4
  have N4 := Fr.app N0 Nq4
  show ac0 p e below P (T4.setTop (mkF m 28 #[.val (.ref o0), .val (.int (2 : Int32)), .val (.ref b1)] [(.int (as2 (3 : Int32) (2 : Int32))), (.int (0 : Int32)), (.ref b1), (.int (0 : Int32)), (.ref o0)]))
  rw [show (as2 (3 : Int32) (2 : Int32)) = (2 : Int32) from by decide]
  show ac0 p e below P (T4.setTop (mkF m 28 #[.val (.ref o0), .val (.int (2 : Int32)), .val (.ref b1)] [(.int (2 : Int32)), (.int (0 : Int32)), (.ref b1), (.int (0 : Int32)), (.ref o0)]))
  refine ap4 X4 hx hZ hown (z_w hw 117 rfl) (z_w hw 93 rfl) (z_w hw 91 rfl) (z_w hw 92 rfl) eq4 G3 A1 (sp := 0) (dp := 0) (n := 2) (by decide) (by decide) (by decide) (by simp) (by simp) N4 ao1 (g := (mkF m 28 #[.val (.ref o0), .val (.int (2 : Int32)), .val (.ref b1)] [(.int (2 : Int32)), (.int (0 : Int32)), (.ref b1), (.int (0 : Int32)), (.ref o0)])) rfl (by rw [hml']; rfl) rfl (hb hby ab6) (by decide) 0 (by show 2 * 0 + _ ≤ _; exact Nat.le_of_eq rfl) (by decide) (fun T5 h5 L5 X5 e5 N5 Kq5 B5 => ?_)
  have A5 : ag0 Z h5 b1 [c0, c1] := B5
  have K5 := Keep.trans K1 Kq5 (allS (Or.inr ay1) all0)
  show ac0 p e below P (T5.setTop (mkF m 31 #[.val (.ref o0), .val (.int (2 : Int32)), .val (.ref b1)] []))
  refine ab0 X5 hx (hb hby ac6) rfl rfl ?_
  have Ar6 : ag0 Z h5 b1 [c0, c1] := A5
  have hfin : (fun (v : Option Value) (h : Heap) (L : List Loc) => ∃ (br : Addr), v = some (.ref br) ∧ Fr n0 L ∧ Keep h0 h [] ∧ h0.size ≤ br ∧ n0 ≤ br ∧ ag0 Z h br [c0, c1]) (some (.ref b1)) h5 _ := ⟨b1, rfl, N5, K5, ay1, ao1, Ar6⟩
  refine as1 X5 hx hlk hP rfl rfl hrt (hb hby ad6) (by decide) (by decide) ?_
  rw [e5]; exact hfin
theorem ca8 (m : MethodId) (o0 : Addr) : entryFrame m #[(.ref o0), (.int (1 : Int32))] 3 = mkF m 0 #[.val (.ref o0), .val (.int (1 : Int32)), .unset] [] := by first | (simp [entryFrame, mkF, argsToLocals, Value.category]; done) | rfl
set_option maxRecDepth 65536 in
set_option maxHeartbeats 40000000 in
theorem dv3 (l : Launch) (Z : State) (a0 : Array Value) (hw : ∀ d ∈ tables_1, d.before a0 Z = true) (ws : List Jvm.Cond) (o0 : Addr) (c0 : Int32) (c1 : Int32) (c2 : Int32) (c3 : Int32) (h0 : Heap) (n0 : Nat) (Z0 : n0 ≤ h0.size) (A_o0 : ag0 Z h0 o0 [c0, c1, c2, c3]) :
    as0 l Z (⟨z_s5, "copyOf", "([II)[I"⟩ : MethodName) jdk_65_method_123_code 3 (some (.array .int)) ws ({ frames := 1, cells := 1, slots := 4, locals := 45 } : Room) #[(.ref o0), (.int (1 : Int32))] h0 (fun (v : Option Value) (h : Heap) (L : List Loc) => ∃ (br : Addr), v = some (.ref br) ∧ Fr n0 L ∧ Keep h0 h [] ∧ h0.size ≤ br ∧ n0 ≤ br ∧ ag0 Z h br [c0]) := by
  refine aq0 (plainFor_of_name az0) ?_
  intro p e s m below meth c s₁ P hx hby hml hrt hlk hown hnm hZ X0 e0 hP
  have N0 := Fr.nil n0
  have K0 := Keep.refl h0 []
  have hml' : c.maxLocals = 3 := hml
  refine ar0 (ca8 m o0) ?_
  show ac0 p e below P (s₁.setTop (mkF m 0 #[.val (.ref o0), .val (.int (1 : Int32)), .unset] []))
  refine ae0 X0 hx (hb hby av4) rfl ?_
  refine ab0 X0 hx (hb hby aw4) rfl rfl ?_
  refine ah1 X0 hx hZ e0 A_o0 (z := (4 : Int32)) rfl (hb hby ax4) ?_
  refine au0 X0 hx (pc' := 14) (hb hby ay4) (feq (by decide : ¬ ((1 : Int32) = (4 : Int32)))).2 ?_
  refine ae0 X0 hx (hb hby ar5) rfl ?_
  refine ab9 X0 hx hZ (z_w hw 5 rfl) e0 (j := (1 : Int32)) (n := 1) (by decide) 1 (by decide) (by decide) (by decide) (by decide) (hb hby as5) (fun T1 h1 X1 e1 E1 B1 => ?_)
  obtain ⟨b1, g1⟩ : ∃ z, z = h0.size := ⟨_, rfl⟩
  rw [← g1] at B1 ⊢
  have ne2 := z_nb A_o0.lt g1
  have ao1 : n0 ≤ b1 := Nat.le_trans (Nat.le_trans Z0 K0.1) (Nat.le_of_eq g1.symm)
  have ay1 : h0.size ≤ b1 := Nat.le_trans K0.1 (Nat.le_of_eq g1.symm)
  have K1 := Keep.ext K0 E1
  have A1 : ag0 Z h1 b1 [(0 : Int32)] := B1
  refine av2 X1 hx (hb hby at5) rfl (l' := #[.val (.ref o0), .val (.int (1 : Int32)), .val (.ref b1)]) rfl ?_
  refine ab0 X1 hx (hb hby au5) rfl rfl ?_
  refine am0 X1 hx (hb hby av5) (z := (0 : Int32)) rfl ?_
  refine ab0 X1 hx (hb hby aw5) rfl rfl ?_
  refine am0 X1 hx (hb hby ax5) (z := (0 : Int32)) rfl ?_
  refine ab0 X1 hx (hb hby ay5) rfl rfl ?_
  have G3 := (A_o0.ext E1)
  refine ah1 X1 hx hZ e1 G3 (z := (4 : Int32)) rfl (hb hby az5) ?_
  refine ae0 X1 hx (hb hby a6) rfl ?_
  refine af1 X1 hx hZ (y := (⟨"java/lang/Math", "min", "(II)I"⟩ : MethodName)) hown (z_w hw 114 rfl) (z_w hw 115 rfl) (z_w hw 106 rfl) (z_w hw 116 rfl) (af6 l Z a0 hw [] (4 : Int32) (1 : Int32)  h1 n0 (Nat.le_trans Z0 K1.1) ) 4 e1 hml' (argsL := [(.int (4 : Int32)), (.int (1 : Int32))]) (rest := [(.int (0 : Int32)), (.ref b1), (.int (0 : Int32)), (.ref o0)]) (lenOf ap2 rfl) (hb hby aa6) (fun r4 T4 L4 X4 hQ4 => ?_)
  obtain ⟨rfl, Nq4, eq4⟩ := hQ4
  have N4 := Fr.app N0 Nq4
  show ac0 p e below P (T4.setTop (mkF m 28 #[.val (.ref o0), .val (.int (1 : Int32)), .val (.ref b1)] [(.int (as2 (4 : Int32) (1 : Int32))), (.int (0 : Int32)), (.ref b1), (.int (0 : Int32)), (.ref o0)]))
  rw [show (as2 (4 : Int32) (1 : Int32)) = (1 : Int32) from by decide]
  show ac0 p e below P (T4.setTop (mkF m 28 #[.val (.ref o0), .val (.int (1 : Int32)), .val (.ref b1)] [(.int (1 : Int32)), (.int (0 : Int32)), (.ref b1), (.int (0 : Int32)), (.ref o0)]))
  refine ap4 X4 hx hZ hown (z_w hw 117 rfl) (z_w hw 93 rfl) (z_w hw 91 rfl) (z_w hw 92 rfl) eq4 G3 A1 (sp := 0) (dp := 0) (n := 1) (by decide) (by decide) (by decide) (by simp) (by simp) N4 ao1 (g := (mkF m 28 #[.val (.ref o0), .val (.int (1 : Int32)), .val (.ref b1)] [(.int (1 : Int32)), (.int (0 : Int32)), (.ref b1), (.int (0 : Int32)), (.ref o0)])) rfl (by rw [hml']; rfl) rfl (hb hby ab6) (by decide) 0 (by show 2 * 0 + _ ≤ _; exact Nat.le_of_eq rfl) (by decide) (fun T5 h5 L5 X5 e5 N5 Kq5 B5 => ?_)
  have A5 : ag0 Z h5 b1 [c0] := B5
  have K5 := Keep.trans K1 Kq5 (allS (Or.inr ay1) all0)
  show ac0 p e below P (T5.setTop (mkF m 31 #[.val (.ref o0), .val (.int (1 : Int32)), .val (.ref b1)] []))
  refine ab0 X5 hx (hb hby ac6) rfl rfl ?_
  have Ar6 : ag0 Z h5 b1 [c0] := A5
  have hfin : (fun (v : Option Value) (h : Heap) (L : List Loc) => ∃ (br : Addr), v = some (.ref br) ∧ Fr n0 L ∧ Keep h0 h [] ∧ h0.size ≤ br ∧ n0 ≤ br ∧ ag0 Z h br [c0]) (some (.ref b1)) h5 _ := ⟨b1, rfl, N5, K5, ay1, ao1, Ar6⟩
  refine as1 X5 hx hlk hP rfl rfl hrt (hb hby ad6) (by decide) (by decide) ?_
  rw [e5]; exact hfin
theorem cb8 (m : MethodId) (o0 : Addr) : entryFrame m #[(.ref o0), (.int (2 : Int32))] 3 = mkF m 0 #[.val (.ref o0), .val (.int (2 : Int32)), .unset] [] := by first | (simp [entryFrame, mkF, argsToLocals, Value.category]; done) | rfl
set_option maxRecDepth 65536 in
set_option maxHeartbeats 40000000 in
theorem cu3 (l : Launch) (Z : State) (a0 : Array Value) (hw : ∀ d ∈ tables_1, d.before a0 Z = true) (ws : List Jvm.Cond) (o0 : Addr) (c0 : Int32) (c1 : Int32) (c2 : Int32) (c3 : Int32) (h0 : Heap) (n0 : Nat) (Z0 : n0 ≤ h0.size) (A_o0 : ag0 Z h0 o0 [c0, c1, c2, c3]) :
    as0 l Z (⟨z_s5, "copyOf", "([II)[I"⟩ : MethodName) jdk_65_method_123_code 3 (some (.array .int)) ws ({ frames := 1, cells := 1, slots := 4, locals := 45 } : Room) #[(.ref o0), (.int (2 : Int32))] h0 (fun (v : Option Value) (h : Heap) (L : List Loc) => ∃ (br : Addr), v = some (.ref br) ∧ Fr n0 L ∧ Keep h0 h [] ∧ h0.size ≤ br ∧ n0 ≤ br ∧ ag0 Z h br [c0, c1]) := by
  refine aq0 (plainFor_of_name az0) ?_
  intro p e s m below meth c s₁ P hx hby hml hrt hlk hown hnm hZ X0 e0 hP
  have N0 := Fr.nil n0
  have K0 := Keep.refl h0 []
  have hml' : c.maxLocals = 3 := hml
  refine ar0 (cb8 m o0) ?_
  show ac0 p e below P (s₁.setTop (mkF m 0 #[.val (.ref o0), .val (.int (2 : Int32)), .unset] []))
  refine ae0 X0 hx (hb hby av4) rfl ?_
  refine ab0 X0 hx (hb hby aw4) rfl rfl ?_
  refine ah1 X0 hx hZ e0 A_o0 (z := (4 : Int32)) rfl (hb hby ax4) ?_
  refine au0 X0 hx (pc' := 14) (hb hby ay4) (feq (by decide : ¬ ((2 : Int32) = (4 : Int32)))).2 ?_
  refine ae0 X0 hx (hb hby ar5) rfl ?_
  refine ab9 X0 hx hZ (z_w hw 5 rfl) e0 (j := (2 : Int32)) (n := 2) (by decide) 2 (by decide) (by decide) (by decide) (by decide) (hb hby as5) (fun T1 h1 X1 e1 E1 B1 => ?_)
  obtain ⟨b1, g1⟩ : ∃ z, z = h0.size := ⟨_, rfl⟩
  rw [← g1] at B1 ⊢
  have ne2 := z_nb A_o0.lt g1
  have ao1 : n0 ≤ b1 := Nat.le_trans (Nat.le_trans Z0 K0.1) (Nat.le_of_eq g1.symm)
  have ay1 : h0.size ≤ b1 := Nat.le_trans K0.1 (Nat.le_of_eq g1.symm)
  have K1 := Keep.ext K0 E1
  have A1 : ag0 Z h1 b1 [(0 : Int32), (0 : Int32)] := B1
  refine av2 X1 hx (hb hby at5) rfl (l' := #[.val (.ref o0), .val (.int (2 : Int32)), .val (.ref b1)]) rfl ?_
  refine ab0 X1 hx (hb hby au5) rfl rfl ?_
  refine am0 X1 hx (hb hby av5) (z := (0 : Int32)) rfl ?_
  refine ab0 X1 hx (hb hby aw5) rfl rfl ?_
  refine am0 X1 hx (hb hby ax5) (z := (0 : Int32)) rfl ?_
  refine ab0 X1 hx (hb hby ay5) rfl rfl ?_
  have G3 := (A_o0.ext E1)
  refine ah1 X1 hx hZ e1 G3 (z := (4 : Int32)) rfl (hb hby az5) ?_
  refine ae0 X1 hx (hb hby a6) rfl ?_
  refine af1 X1 hx hZ (y := (⟨"java/lang/Math", "min", "(II)I"⟩ : MethodName)) hown (z_w hw 114 rfl) (z_w hw 115 rfl) (z_w hw 106 rfl) (z_w hw 116 rfl) (af6 l Z a0 hw [] (4 : Int32) (2 : Int32)  h1 n0 (Nat.le_trans Z0 K1.1) ) 4 e1 hml' (argsL := [(.int (4 : Int32)), (.int (2 : Int32))]) (rest := [(.int (0 : Int32)), (.ref b1), (.int (0 : Int32)), (.ref o0)]) (lenOf ap2 rfl) (hb hby aa6) (fun r4 T4 L4 X4 hQ4 => ?_)
  obtain ⟨rfl, Nq4, eq4⟩ := hQ4
  have N4 := Fr.app N0 Nq4
  show ac0 p e below P (T4.setTop (mkF m 28 #[.val (.ref o0), .val (.int (2 : Int32)), .val (.ref b1)] [(.int (as2 (4 : Int32) (2 : Int32))), (.int (0 : Int32)), (.ref b1), (.int (0 : Int32)), (.ref o0)]))
  rw [show (as2 (4 : Int32) (2 : Int32)) = (2 : Int32) from by decide]
  show ac0 p e below P (T4.setTop (mkF m 28 #[.val (.ref o0), .val (.int (2 : Int32)), .val (.ref b1)] [(.int (2 : Int32)), (.int (0 : Int32)), (.ref b1), (.int (0 : Int32)), (.ref o0)]))
  refine ap4 X4 hx hZ hown (z_w hw 117 rfl) (z_w hw 93 rfl) (z_w hw 91 rfl) (z_w hw 92 rfl) eq4 G3 A1 (sp := 0) (dp := 0) (n := 2) (by decide) (by decide) (by decide) (by simp) (by simp) N4 ao1 (g := (mkF m 28 #[.val (.ref o0), .val (.int (2 : Int32)), .val (.ref b1)] [(.int (2 : Int32)), (.int (0 : Int32)), (.ref b1), (.int (0 : Int32)), (.ref o0)])) rfl (by rw [hml']; rfl) rfl (hb hby ab6) (by decide) 0 (by show 2 * 0 + _ ≤ _; exact Nat.le_of_eq rfl) (by decide) (fun T5 h5 L5 X5 e5 N5 Kq5 B5 => ?_)
  have A5 : ag0 Z h5 b1 [c0, c1] := B5
  have K5 := Keep.trans K1 Kq5 (allS (Or.inr ay1) all0)
  show ac0 p e below P (T5.setTop (mkF m 31 #[.val (.ref o0), .val (.int (2 : Int32)), .val (.ref b1)] []))
  refine ab0 X5 hx (hb hby ac6) rfl rfl ?_
  have Ar6 : ag0 Z h5 b1 [c0, c1] := A5
  have hfin : (fun (v : Option Value) (h : Heap) (L : List Loc) => ∃ (br : Addr), v = some (.ref br) ∧ Fr n0 L ∧ Keep h0 h [] ∧ h0.size ≤ br ∧ n0 ≤ br ∧ ag0 Z h br [c0, c1]) (some (.ref b1)) h5 _ := ⟨b1, rfl, N5, K5, ay1, ao1, Ar6⟩
  refine as1 X5 hx hlk hP rfl rfl hrt (hb hby ad6) (by decide) (by decide) ?_
  rw [e5]; exact hfin
theorem cc8 (m : MethodId) (o0 : Addr) : entryFrame m #[(.ref o0), (.int (3 : Int32))] 3 = mkF m 0 #[.val (.ref o0), .val (.int (3 : Int32)), .unset] [] := by first | (simp [entryFrame, mkF, argsToLocals, Value.category]; done) | rfl
set_option maxRecDepth 65536 in
set_option maxHeartbeats 40000000 in
theorem cv3 (l : Launch) (Z : State) (a0 : Array Value) (hw : ∀ d ∈ tables_1, d.before a0 Z = true) (ws : List Jvm.Cond) (o0 : Addr) (c0 : Int32) (c1 : Int32) (c2 : Int32) (c3 : Int32) (h0 : Heap) (n0 : Nat) (Z0 : n0 ≤ h0.size) (A_o0 : ag0 Z h0 o0 [c0, c1, c2, c3]) :
    as0 l Z (⟨z_s5, "copyOf", "([II)[I"⟩ : MethodName) jdk_65_method_123_code 3 (some (.array .int)) ws ({ frames := 1, cells := 1, slots := 4, locals := 45 } : Room) #[(.ref o0), (.int (3 : Int32))] h0 (fun (v : Option Value) (h : Heap) (L : List Loc) => ∃ (br : Addr), v = some (.ref br) ∧ Fr n0 L ∧ Keep h0 h [] ∧ h0.size ≤ br ∧ n0 ≤ br ∧ ag0 Z h br [c0, c1, c2]) := by
  refine aq0 (plainFor_of_name az0) ?_
  intro p e s m below meth c s₁ P hx hby hml hrt hlk hown hnm hZ X0 e0 hP
  have N0 := Fr.nil n0
  have K0 := Keep.refl h0 []
  have hml' : c.maxLocals = 3 := hml
  refine ar0 (cc8 m o0) ?_
  show ac0 p e below P (s₁.setTop (mkF m 0 #[.val (.ref o0), .val (.int (3 : Int32)), .unset] []))
  refine ae0 X0 hx (hb hby av4) rfl ?_
  refine ab0 X0 hx (hb hby aw4) rfl rfl ?_
  refine ah1 X0 hx hZ e0 A_o0 (z := (4 : Int32)) rfl (hb hby ax4) ?_
  refine au0 X0 hx (pc' := 14) (hb hby ay4) (feq (by decide : ¬ ((3 : Int32) = (4 : Int32)))).2 ?_
  refine ae0 X0 hx (hb hby ar5) rfl ?_
  refine ab9 X0 hx hZ (z_w hw 5 rfl) e0 (j := (3 : Int32)) (n := 3) (by decide) 3 (by decide) (by decide) (by decide) (by decide) (hb hby as5) (fun T1 h1 X1 e1 E1 B1 => ?_)
  obtain ⟨b1, g1⟩ : ∃ z, z = h0.size := ⟨_, rfl⟩
  rw [← g1] at B1 ⊢
  have ne2 := z_nb A_o0.lt g1
  have ao1 : n0 ≤ b1 := Nat.le_trans (Nat.le_trans Z0 K0.1) (Nat.le_of_eq g1.symm)
  have ay1 : h0.size ≤ b1 := Nat.le_trans K0.1 (Nat.le_of_eq g1.symm)
  have K1 := Keep.ext K0 E1
  have A1 : ag0 Z h1 b1 [(0 : Int32), (0 : Int32), (0 : Int32)] := B1
  refine av2 X1 hx (hb hby at5) rfl (l' := #[.val (.ref o0), .val (.int (3 : Int32)), .val (.ref b1)]) rfl ?_
  refine ab0 X1 hx (hb hby au5) rfl rfl ?_
  refine am0 X1 hx (hb hby av5) (z := (0 : Int32)) rfl ?_
  refine ab0 X1 hx (hb hby aw5) rfl rfl ?_
  refine am0 X1 hx (hb hby ax5) (z := (0 : Int32)) rfl ?_
  refine ab0 X1 hx (hb hby ay5) rfl rfl ?_
  have G3 := (A_o0.ext E1)
  refine ah1 X1 hx hZ e1 G3 (z := (4 : Int32)) rfl (hb hby az5) ?_
  refine ae0 X1 hx (hb hby a6) rfl ?_
  refine af1 X1 hx hZ (y := (⟨"java/lang/Math", "min", "(II)I"⟩ : MethodName)) hown (z_w hw 114 rfl) (z_w hw 115 rfl) (z_w hw 106 rfl) (z_w hw 116 rfl) (af6 l Z a0 hw [] (4 : Int32) (3 : Int32)  h1 n0 (Nat.le_trans Z0 K1.1) ) 4 e1 hml' (argsL := [(.int (4 : Int32)), (.int (3 : Int32))]) (rest := [(.int (0 : Int32)), (.ref b1), (.int (0 : Int32)), (.ref o0)]) (lenOf ap2 rfl) (hb hby aa6) (fun r4 T4 L4 X4 hQ4 => ?_)
  obtain ⟨rfl, Nq4, eq4⟩ := hQ4
  have N4 := Fr.app N0 Nq4
  show ac0 p e below P (T4.setTop (mkF m 28 #[.val (.ref o0), .val (.int (3 : Int32)), .val (.ref b1)] [(.int (as2 (4 : Int32) (3 : Int32))), (.int (0 : Int32)), (.ref b1), (.int (0 : Int32)), (.ref o0)]))
  rw [show (as2 (4 : Int32) (3 : Int32)) = (3 : Int32) from by decide]
  show ac0 p e below P (T4.setTop (mkF m 28 #[.val (.ref o0), .val (.int (3 : Int32)), .val (.ref b1)] [(.int (3 : Int32)), (.int (0 : Int32)), (.ref b1), (.int (0 : Int32)), (.ref o0)]))
  refine ap4 X4 hx hZ hown (z_w hw 117 rfl) (z_w hw 93 rfl) (z_w hw 91 rfl) (z_w hw 92 rfl) eq4 G3 A1 (sp := 0) (dp := 0) (n := 3) (by decide) (by decide) (by decide) (by simp) (by simp) N4 ao1 (g := (mkF m 28 #[.val (.ref o0), .val (.int (3 : Int32)), .val (.ref b1)] [(.int (3 : Int32)), (.int (0 : Int32)), (.ref b1), (.int (0 : Int32)), (.ref o0)])) rfl (by rw [hml']; rfl) rfl (hb hby ab6) (by decide) 0 (by show 2 * 0 + _ ≤ _; exact Nat.le_of_eq rfl) (by decide) (fun T5 h5 L5 X5 e5 N5 Kq5 B5 => ?_)
  have A5 : ag0 Z h5 b1 [c0, c1, c2] := B5
  have K5 := Keep.trans K1 Kq5 (allS (Or.inr ay1) all0)
  show ac0 p e below P (T5.setTop (mkF m 31 #[.val (.ref o0), .val (.int (3 : Int32)), .val (.ref b1)] []))
  refine ab0 X5 hx (hb hby ac6) rfl rfl ?_
  have Ar6 : ag0 Z h5 b1 [c0, c1, c2] := A5
  have hfin : (fun (v : Option Value) (h : Heap) (L : List Loc) => ∃ (br : Addr), v = some (.ref br) ∧ Fr n0 L ∧ Keep h0 h [] ∧ h0.size ≤ br ∧ n0 ≤ br ∧ ag0 Z h br [c0, c1, c2]) (some (.ref b1)) h5 _ := ⟨b1, rfl, N5, K5, ay1, ao1, Ar6⟩
  refine as1 X5 hx hlk hP rfl rfl hrt (hb hby ad6) (by decide) (by decide) ?_
  rw [e5]; exact hfin
theorem ap8 : decode prog_6_method_13_code 0 = .ok (.aload_n 0, 1) := by decide +kernel
theorem aq8 : decode prog_6_method_13_code 1 = .ok (.aload_n 0, 1) := by decide +kernel
theorem ar8 : decode prog_6_method_13_code 2 = .ok (.arraylength, 1) := by decide +kernel
theorem as8 : decode prog_6_method_13_code 3 = .ok (.aload_n 1, 1) := by decide +kernel
theorem at8 : decode prog_6_method_13_code 4 = .ok (.arraylength, 1) := by decide +kernel
theorem au8 : decode prog_6_method_13_code 5 = .ok (.iadd, 1) := by decide +kernel
theorem av8 : decode prog_6_method_13_code 6 = .ok (.invokestatic 69, 3) := by decide +kernel
theorem ah2 : parseMethodDescriptor "([II)[I" = some ⟨[(.array .int), .int], some (.array .int)⟩ := by decide +kernel
theorem aw8 : decode prog_6_method_13_code 9 = .ok (.astore_n 2, 1) := by decide +kernel
theorem ap7 : decode prog_6_method_13_code 10 = .ok (.aload_n 1, 1) := by decide +kernel
theorem aq7 : decode prog_6_method_13_code 11 = .ok (.iconst 0, 1) := by decide +kernel
theorem ar7 : decode prog_6_method_13_code 12 = .ok (.aload_n 2, 1) := by decide +kernel
theorem as7 : decode prog_6_method_13_code 13 = .ok (.aload_n 0, 1) := by decide +kernel
theorem at7 : decode prog_6_method_13_code 14 = .ok (.arraylength, 1) := by decide +kernel
theorem au7 : decode prog_6_method_13_code 15 = .ok (.aload_n 1, 1) := by decide +kernel
theorem av7 : decode prog_6_method_13_code 16 = .ok (.arraylength, 1) := by decide +kernel
theorem aw7 : decode prog_6_method_13_code 17 = .ok (.invokestatic 73, 3) := by decide +kernel
theorem ax7 : decode prog_6_method_13_code 20 = .ok (.aload_n 2, 1) := by decide +kernel
theorem ay7 : decode prog_6_method_13_code 21 = .ok (.areturn, 1) := by decide +kernel
theorem dw3 (m : MethodId) (o0 : Addr) (o1 : Addr) : entryFrame m #[(.ref o0), (.ref o1)] 3 = mkF m 0 #[.val (.ref o0), .val (.ref o1), .unset] [] := by first | (simp [entryFrame, mkF, argsToLocals, Value.category]; done) | rfl
theorem an0 : plainName z_s3 = true := by first | (simp [plainName, overriddenIn]; done) | decide +kernel
set_option maxRecDepth 65536 in
set_option maxHeartbeats 40000000 in
theorem dg9 (l : Launch) (Z : State) (a0 : Array Value) (hw : ∀ d ∈ tables_1, d.before a0 Z = true) (ws : List Jvm.Cond) (o0 : Addr) (o1 : Addr)  (h0 : Heap) (n0 : Nat) (Z0 : n0 ≤ h0.size) (A_o0 : ag0 Z h0 o0 ([] : List Int32)) (A_o1 : ag0 Z h0 o1 ([] : List Int32)) :
    as0 l Z (⟨z_s3, "concatenate", "([I[I)[I"⟩ : MethodName) prog_6_method_13_code 3 (some (.array .int)) ws ({ frames := 2, cells := 1, slots := 4, locals := 61 } : Room) #[(.ref o0), (.ref o1)] h0 (fun (v : Option Value) (h : Heap) (L : List Loc) => ∃ (br : Addr), v = some (.ref br) ∧ Fr n0 L ∧ Keep h0 h [] ∧ h0.size ≤ br ∧ n0 ≤ br ∧ ag0 Z h br ([] : List Int32)) := by
  refine aq0 (plainFor_of_name an0) ?_
  intro p e s m below meth c s₁ P hx hby hml hrt hlk hown hnm hZ X0 e0 hP
  have N0 := Fr.nil n0
  have K0 := Keep.refl h0 []
  have hml' : c.maxLocals = 3 := hml
  refine ar0 (dw3 m o0 o1) ?_
  show ac0 p e below P (s₁.setTop (mkF m 0 #[.val (.ref o0), .val (.ref o1), .unset] []))
  refine ab0 X0 hx (hb hby ap8) rfl rfl ?_
  refine ab0 X0 hx (hb hby aq8) rfl rfl ?_
  refine ah1 X0 hx hZ e0 A_o0 (z := (0 : Int32)) rfl (hb hby ar8) ?_
  refine ab0 X0 hx (hb hby as8) rfl rfl ?_
  refine ah1 X0 hx hZ e0 A_o1 (z := (0 : Int32)) rfl (hb hby at8) ?_
  refine am2 X0 hx (hb hby au8) (z := (0 : Int32)) rfl ?_
  refine af1 X0 hx hZ (y := (⟨z_s5, "copyOf", "([II)[I"⟩ : MethodName)) hown (z_w hw 199 rfl) (z_w hw 200 rfl) (z_w hw 112 rfl) (z_w hw 201 rfl) (dk3 l Z a0 hw [] o0  h0 n0 (Nat.le_trans Z0 K0.1) A_o0) 0 e0 hml' (argsL := [(.ref o0), (.int (0 : Int32))]) (rest := []) (lenOf ah2 rfl) (hb hby av8) (fun r1 T1 L1 X1 hQ1 => ?_)
  obtain ⟨br_1, rfl, Nq1, Kq1, ao2, ac3, f0_1⟩ := hQ1
  have N1 := Fr.app N0 Nq1
  have ne2 := z_nc A_o0.lt ao2
  have ne3 := z_nc A_o1.lt ao2
  have aq3 := Nat.le_trans K0.1 ao2
  have K1 := Keep.trans K0 Kq1 all0
  show ac0 p e below P (T1.setTop (mkF m 9 #[.val (.ref o0), .val (.ref o1), .unset] [(.ref br_1)]))
  refine av2 X1 hx (hb hby aw8) rfl (l' := #[.val (.ref o0), .val (.ref o1), .val (.ref br_1)]) rfl ?_
  refine ab0 X1 hx (hb hby ap7) rfl rfl ?_
  refine am0 X1 hx (hb hby aq7) (z := (0 : Int32)) rfl ?_
  refine ab0 X1 hx (hb hby ar7) rfl rfl ?_
  refine ab0 X1 hx (hb hby as7) rfl rfl ?_
  have G4 := (A_o0.keep Kq1 nin0)
  refine ah1 X1 hx hZ rfl G4 (z := (0 : Int32)) rfl (hb hby at7) ?_
  refine ab0 X1 hx (hb hby au7) rfl rfl ?_
  have G5 := (A_o1.keep Kq1 nin0)
  refine ah1 X1 hx hZ rfl G5 (z := (0 : Int32)) rfl (hb hby av7) ?_
  refine ap4 X1 hx hZ hown (z_w hw 204 rfl) (z_w hw 93 rfl) (z_w hw 91 rfl) (z_w hw 92 rfl) rfl G5 f0_1 (sp := 0) (dp := 0) (n := 0) (by decide) (by decide) (by decide) (by simp) (by simp) N1 ac3 (g := (mkF m 17 #[.val (.ref o0), .val (.ref o1), .val (.ref br_1)] [(.int (0 : Int32)), (.int (0 : Int32)), (.ref br_1), (.int (0 : Int32)), (.ref o1)])) rfl (by rw [hml']; rfl) rfl (hb hby aw7) (by decide) 0 (by show 2 * 0 + _ ≤ _; exact Nat.le_of_eq rfl) (by decide) (fun T6 h6 L6 X6 e6 N6 Kq6 B6 => ?_)
  have A6 : ag0 Z h6 br_1 ([] : List Int32) := B6
  have K6 := Keep.trans K1 Kq6 (allS (Or.inr aq3) all0)
  show ac0 p e below P (T6.setTop (mkF m 20 #[.val (.ref o0), .val (.ref o1), .val (.ref br_1)] []))
  refine ab0 X6 hx (hb hby ax7) rfl rfl ?_
  have Ar7 : ag0 Z h6 br_1 ([] : List Int32) := A6
  have hfin : (fun (v : Option Value) (h : Heap) (L : List Loc) => ∃ (br : Addr), v = some (.ref br) ∧ Fr n0 L ∧ Keep h0 h [] ∧ h0.size ≤ br ∧ n0 ≤ br ∧ ag0 Z h br ([] : List Int32)) (some (.ref br_1)) h6 _ := ⟨br_1, rfl, N6, K6, aq3, ac3, Ar7⟩
  refine as1 X6 hx hlk hP rfl rfl hrt (hb hby ay7) (by decide) (by decide) ?_
  rw [e6]; exact hfin
theorem dx3 (m : MethodId) (o0 : Addr) (o1 : Addr) : entryFrame m #[(.ref o0), (.ref o1)] 3 = mkF m 0 #[.val (.ref o0), .val (.ref o1), .unset] [] := by first | (simp [entryFrame, mkF, argsToLocals, Value.category]; done) | rfl
set_option maxRecDepth 65536 in
set_option maxHeartbeats 40000000 in
theorem dh9 (l : Launch) (Z : State) (a0 : Array Value) (hw : ∀ d ∈ tables_1, d.before a0 Z = true) (ws : List Jvm.Cond) (o0 : Addr) (o1 : Addr) (d0 : Int32) (h0 : Heap) (n0 : Nat) (Z0 : n0 ≤ h0.size) (A_o0 : ag0 Z h0 o0 ([] : List Int32)) (A_o1 : ag0 Z h0 o1 [d0]) :
    as0 l Z (⟨z_s3, "concatenate", "([I[I)[I"⟩ : MethodName) prog_6_method_13_code 3 (some (.array .int)) ws ({ frames := 2, cells := 1, slots := 4, locals := 61 } : Room) #[(.ref o0), (.ref o1)] h0 (fun (v : Option Value) (h : Heap) (L : List Loc) => ∃ (br : Addr), v = some (.ref br) ∧ Fr n0 L ∧ Keep h0 h [] ∧ h0.size ≤ br ∧ n0 ≤ br ∧ ag0 Z h br [d0]) := by
  refine aq0 (plainFor_of_name an0) ?_
  intro p e s m below meth c s₁ P hx hby hml hrt hlk hown hnm hZ X0 e0 hP
  have N0 := Fr.nil n0
  have K0 := Keep.refl h0 []
  have hml' : c.maxLocals = 3 := hml
  refine ar0 (dx3 m o0 o1) ?_
  show ac0 p e below P (s₁.setTop (mkF m 0 #[.val (.ref o0), .val (.ref o1), .unset] []))
  refine ab0 X0 hx (hb hby ap8) rfl rfl ?_
  refine ab0 X0 hx (hb hby aq8) rfl rfl ?_
  refine ah1 X0 hx hZ e0 A_o0 (z := (0 : Int32)) rfl (hb hby ar8) ?_
  refine ab0 X0 hx (hb hby as8) rfl rfl ?_
  refine ah1 X0 hx hZ e0 A_o1 (z := (1 : Int32)) rfl (hb hby at8) ?_
  refine am2 X0 hx (hb hby au8) (z := (1 : Int32)) rfl ?_
  refine af1 X0 hx hZ (y := (⟨z_s5, "copyOf", "([II)[I"⟩ : MethodName)) hown (z_w hw 199 rfl) (z_w hw 200 rfl) (z_w hw 112 rfl) (z_w hw 201 rfl) (dl3 l Z a0 hw [] o0  h0 n0 (Nat.le_trans Z0 K0.1) A_o0) 0 e0 hml' (argsL := [(.ref o0), (.int (1 : Int32))]) (rest := []) (lenOf ah2 rfl) (hb hby av8) (fun r1 T1 L1 X1 hQ1 => ?_)
  obtain ⟨br_1, rfl, Nq1, Kq1, ao2, ac3, f0_1⟩ := hQ1
  have N1 := Fr.app N0 Nq1
  have ne2 := z_nc A_o0.lt ao2
  have ne3 := z_nc A_o1.lt ao2
  have aq3 := Nat.le_trans K0.1 ao2
  have K1 := Keep.trans K0 Kq1 all0
  show ac0 p e below P (T1.setTop (mkF m 9 #[.val (.ref o0), .val (.ref o1), .unset] [(.ref br_1)]))
  refine av2 X1 hx (hb hby aw8) rfl (l' := #[.val (.ref o0), .val (.ref o1), .val (.ref br_1)]) rfl ?_
  refine ab0 X1 hx (hb hby ap7) rfl rfl ?_
  refine am0 X1 hx (hb hby aq7) (z := (0 : Int32)) rfl ?_
  refine ab0 X1 hx (hb hby ar7) rfl rfl ?_
  refine ab0 X1 hx (hb hby as7) rfl rfl ?_
  have G4 := (A_o0.keep Kq1 nin0)
  refine ah1 X1 hx hZ rfl G4 (z := (0 : Int32)) rfl (hb hby at7) ?_
  refine ab0 X1 hx (hb hby au7) rfl rfl ?_
  have G5 := (A_o1.keep Kq1 nin0)
  refine ah1 X1 hx hZ rfl G5 (z := (1 : Int32)) rfl (hb hby av7) ?_
  refine ap4 X1 hx hZ hown (z_w hw 204 rfl) (z_w hw 93 rfl) (z_w hw 91 rfl) (z_w hw 92 rfl) rfl G5 f0_1 (sp := 0) (dp := 0) (n := 1) (by decide) (by decide) (by decide) (by simp) (by simp) N1 ac3 (g := (mkF m 17 #[.val (.ref o0), .val (.ref o1), .val (.ref br_1)] [(.int (1 : Int32)), (.int (0 : Int32)), (.ref br_1), (.int (0 : Int32)), (.ref o1)])) rfl (by rw [hml']; rfl) rfl (hb hby aw7) (by decide) 0 (by show 2 * 0 + _ ≤ _; exact Nat.le_of_eq rfl) (by decide) (fun T6 h6 L6 X6 e6 N6 Kq6 B6 => ?_)
  have A6 : ag0 Z h6 br_1 [d0] := B6
  have K6 := Keep.trans K1 Kq6 (allS (Or.inr aq3) all0)
  show ac0 p e below P (T6.setTop (mkF m 20 #[.val (.ref o0), .val (.ref o1), .val (.ref br_1)] []))
  refine ab0 X6 hx (hb hby ax7) rfl rfl ?_
  have Ar7 : ag0 Z h6 br_1 [d0] := A6
  have hfin : (fun (v : Option Value) (h : Heap) (L : List Loc) => ∃ (br : Addr), v = some (.ref br) ∧ Fr n0 L ∧ Keep h0 h [] ∧ h0.size ≤ br ∧ n0 ≤ br ∧ ag0 Z h br [d0]) (some (.ref br_1)) h6 _ := ⟨br_1, rfl, N6, K6, aq3, ac3, Ar7⟩
  refine as1 X6 hx hlk hP rfl rfl hrt (hb hby ay7) (by decide) (by decide) ?_
  rw [e6]; exact hfin
theorem dy3 (m : MethodId) (o0 : Addr) (o1 : Addr) : entryFrame m #[(.ref o0), (.ref o1)] 3 = mkF m 0 #[.val (.ref o0), .val (.ref o1), .unset] [] := by first | (simp [entryFrame, mkF, argsToLocals, Value.category]; done) | rfl
set_option maxRecDepth 65536 in
set_option maxHeartbeats 40000000 in
theorem di9 (l : Launch) (Z : State) (a0 : Array Value) (hw : ∀ d ∈ tables_1, d.before a0 Z = true) (ws : List Jvm.Cond) (o0 : Addr) (o1 : Addr) (d0 : Int32) (d1 : Int32) (h0 : Heap) (n0 : Nat) (Z0 : n0 ≤ h0.size) (A_o0 : ag0 Z h0 o0 ([] : List Int32)) (A_o1 : ag0 Z h0 o1 [d0, d1]) :
    as0 l Z (⟨z_s3, "concatenate", "([I[I)[I"⟩ : MethodName) prog_6_method_13_code 3 (some (.array .int)) ws ({ frames := 2, cells := 1, slots := 4, locals := 61 } : Room) #[(.ref o0), (.ref o1)] h0 (fun (v : Option Value) (h : Heap) (L : List Loc) => ∃ (br : Addr), v = some (.ref br) ∧ Fr n0 L ∧ Keep h0 h [] ∧ h0.size ≤ br ∧ n0 ≤ br ∧ ag0 Z h br [d0, d1]) := by
  refine aq0 (plainFor_of_name an0) ?_
  intro p e s m below meth c s₁ P hx hby hml hrt hlk hown hnm hZ X0 e0 hP
  have N0 := Fr.nil n0
  have K0 := Keep.refl h0 []
  have hml' : c.maxLocals = 3 := hml
  refine ar0 (dy3 m o0 o1) ?_
  show ac0 p e below P (s₁.setTop (mkF m 0 #[.val (.ref o0), .val (.ref o1), .unset] []))
  refine ab0 X0 hx (hb hby ap8) rfl rfl ?_
  refine ab0 X0 hx (hb hby aq8) rfl rfl ?_
  refine ah1 X0 hx hZ e0 A_o0 (z := (0 : Int32)) rfl (hb hby ar8) ?_
  refine ab0 X0 hx (hb hby as8) rfl rfl ?_
  refine ah1 X0 hx hZ e0 A_o1 (z := (2 : Int32)) rfl (hb hby at8) ?_
  refine am2 X0 hx (hb hby au8) (z := (2 : Int32)) rfl ?_
  refine af1 X0 hx hZ (y := (⟨z_s5, "copyOf", "([II)[I"⟩ : MethodName)) hown (z_w hw 199 rfl) (z_w hw 200 rfl) (z_w hw 112 rfl) (z_w hw 201 rfl) (dm3 l Z a0 hw [] o0  h0 n0 (Nat.le_trans Z0 K0.1) A_o0) 0 e0 hml' (argsL := [(.ref o0), (.int (2 : Int32))]) (rest := []) (lenOf ah2 rfl) (hb hby av8) (fun r1 T1 L1 X1 hQ1 => ?_)
  obtain ⟨br_1, rfl, Nq1, Kq1, ao2, ac3, f0_1⟩ := hQ1
  have N1 := Fr.app N0 Nq1
  have ne2 := z_nc A_o0.lt ao2
  have ne3 := z_nc A_o1.lt ao2
  have aq3 := Nat.le_trans K0.1 ao2
  have K1 := Keep.trans K0 Kq1 all0
  show ac0 p e below P (T1.setTop (mkF m 9 #[.val (.ref o0), .val (.ref o1), .unset] [(.ref br_1)]))
  refine av2 X1 hx (hb hby aw8) rfl (l' := #[.val (.ref o0), .val (.ref o1), .val (.ref br_1)]) rfl ?_
  refine ab0 X1 hx (hb hby ap7) rfl rfl ?_
  refine am0 X1 hx (hb hby aq7) (z := (0 : Int32)) rfl ?_
  refine ab0 X1 hx (hb hby ar7) rfl rfl ?_
  refine ab0 X1 hx (hb hby as7) rfl rfl ?_
  have G4 := (A_o0.keep Kq1 nin0)
  refine ah1 X1 hx hZ rfl G4 (z := (0 : Int32)) rfl (hb hby at7) ?_
  refine ab0 X1 hx (hb hby au7) rfl rfl ?_
  have G5 := (A_o1.keep Kq1 nin0)
  refine ah1 X1 hx hZ rfl G5 (z := (2 : Int32)) rfl (hb hby av7) ?_
  refine ap4 X1 hx hZ hown (z_w hw 204 rfl) (z_w hw 93 rfl) (z_w hw 91 rfl) (z_w hw 92 rfl) rfl G5 f0_1 (sp := 0) (dp := 0) (n := 2) (by decide) (by decide) (by decide) (by simp) (by simp) N1 ac3 (g := (mkF m 17 #[.val (.ref o0), .val (.ref o1), .val (.ref br_1)] [(.int (2 : Int32)), (.int (0 : Int32)), (.ref br_1), (.int (0 : Int32)), (.ref o1)])) rfl (by rw [hml']; rfl) rfl (hb hby aw7) (by decide) 0 (by show 2 * 0 + _ ≤ _; exact Nat.le_of_eq rfl) (by decide) (fun T6 h6 L6 X6 e6 N6 Kq6 B6 => ?_)
  have A6 : ag0 Z h6 br_1 [d0, d1] := B6
  have K6 := Keep.trans K1 Kq6 (allS (Or.inr aq3) all0)
  show ac0 p e below P (T6.setTop (mkF m 20 #[.val (.ref o0), .val (.ref o1), .val (.ref br_1)] []))
  refine ab0 X6 hx (hb hby ax7) rfl rfl ?_
  have Ar7 : ag0 Z h6 br_1 [d0, d1] := A6
  have hfin : (fun (v : Option Value) (h : Heap) (L : List Loc) => ∃ (br : Addr), v = some (.ref br) ∧ Fr n0 L ∧ Keep h0 h [] ∧ h0.size ≤ br ∧ n0 ≤ br ∧ ag0 Z h br [d0, d1]) (some (.ref br_1)) h6 _ := ⟨br_1, rfl, N6, K6, aq3, ac3, Ar7⟩
  refine as1 X6 hx hlk hP rfl rfl hrt (hb hby ay7) (by decide) (by decide) ?_
  rw [e6]; exact hfin
theorem dz3 (m : MethodId) (o0 : Addr) (o1 : Addr) : entryFrame m #[(.ref o0), (.ref o1)] 3 = mkF m 0 #[.val (.ref o0), .val (.ref o1), .unset] [] := by first | (simp [entryFrame, mkF, argsToLocals, Value.category]; done) | rfl
set_option maxRecDepth 65536 in
set_option maxHeartbeats 40000000 in
theorem dj9 (l : Launch) (Z : State) (a0 : Array Value) (hw : ∀ d ∈ tables_1, d.before a0 Z = true) (ws : List Jvm.Cond) (o0 : Addr) (o1 : Addr) (c0 : Int32) (h0 : Heap) (n0 : Nat) (Z0 : n0 ≤ h0.size) (A_o0 : ag0 Z h0 o0 [c0]) (A_o1 : ag0 Z h0 o1 ([] : List Int32)) :
    as0 l Z (⟨z_s3, "concatenate", "([I[I)[I"⟩ : MethodName) prog_6_method_13_code 3 (some (.array .int)) ws ({ frames := 2, cells := 1, slots := 4, locals := 61 } : Room) #[(.ref o0), (.ref o1)] h0 (fun (v : Option Value) (h : Heap) (L : List Loc) => ∃ (br : Addr), v = some (.ref br) ∧ Fr n0 L ∧ Keep h0 h [] ∧ h0.size ≤ br ∧ n0 ≤ br ∧ ag0 Z h br [c0]) := by
  refine aq0 (plainFor_of_name an0) ?_
  intro p e s m below meth c s₁ P hx hby hml hrt hlk hown hnm hZ X0 e0 hP
  have N0 := Fr.nil n0
  have K0 := Keep.refl h0 []
  have hml' : c.maxLocals = 3 := hml
  refine ar0 (dz3 m o0 o1) ?_
  show ac0 p e below P (s₁.setTop (mkF m 0 #[.val (.ref o0), .val (.ref o1), .unset] []))
  refine ab0 X0 hx (hb hby ap8) rfl rfl ?_
  refine ab0 X0 hx (hb hby aq8) rfl rfl ?_
  refine ah1 X0 hx hZ e0 A_o0 (z := (1 : Int32)) rfl (hb hby ar8) ?_
  refine ab0 X0 hx (hb hby as8) rfl rfl ?_
  refine ah1 X0 hx hZ e0 A_o1 (z := (0 : Int32)) rfl (hb hby at8) ?_
  refine am2 X0 hx (hb hby au8) (z := (1 : Int32)) rfl ?_
  refine af1 X0 hx hZ (y := (⟨z_s5, "copyOf", "([II)[I"⟩ : MethodName)) hown (z_w hw 199 rfl) (z_w hw 200 rfl) (z_w hw 112 rfl) (z_w hw 201 rfl) (dn3 l Z a0 hw [] o0 c0 h0 n0 (Nat.le_trans Z0 K0.1) A_o0) 0 e0 hml' (argsL := [(.ref o0), (.int (1 : Int32))]) (rest := []) (lenOf ah2 rfl) (hb hby av8) (fun r1 T1 L1 X1 hQ1 => ?_)
  obtain ⟨br_1, rfl, Nq1, Kq1, ao2, ac3, f0_1⟩ := hQ1
  have N1 := Fr.app N0 Nq1
  have ne2 := z_nc A_o0.lt ao2
  have ne3 := z_nc A_o1.lt ao2
  have aq3 := Nat.le_trans K0.1 ao2
  have K1 := Keep.trans K0 Kq1 all0
  show ac0 p e below P (T1.setTop (mkF m 9 #[.val (.ref o0), .val (.ref o1), .unset] [(.ref br_1)]))
  refine av2 X1 hx (hb hby aw8) rfl (l' := #[.val (.ref o0), .val (.ref o1), .val (.ref br_1)]) rfl ?_
  refine ab0 X1 hx (hb hby ap7) rfl rfl ?_
  refine am0 X1 hx (hb hby aq7) (z := (0 : Int32)) rfl ?_
  refine ab0 X1 hx (hb hby ar7) rfl rfl ?_
  refine ab0 X1 hx (hb hby as7) rfl rfl ?_
  have G4 := (A_o0.keep Kq1 nin0)
  refine ah1 X1 hx hZ rfl G4 (z := (1 : Int32)) rfl (hb hby at7) ?_
  refine ab0 X1 hx (hb hby au7) rfl rfl ?_
  have G5 := (A_o1.keep Kq1 nin0)
  refine ah1 X1 hx hZ rfl G5 (z := (0 : Int32)) rfl (hb hby av7) ?_
  refine ap4 X1 hx hZ hown (z_w hw 204 rfl) (z_w hw 93 rfl) (z_w hw 91 rfl) (z_w hw 92 rfl) rfl G5 f0_1 (sp := 0) (dp := 1) (n := 0) (by decide) (by decide) (by decide) (by simp) (by simp) N1 ac3 (g := (mkF m 17 #[.val (.ref o0), .val (.ref o1), .val (.ref br_1)] [(.int (0 : Int32)), (.int (1 : Int32)), (.ref br_1), (.int (0 : Int32)), (.ref o1)])) rfl (by rw [hml']; rfl) rfl (hb hby aw7) (by decide) 0 (by show 2 * 0 + _ ≤ _; exact Nat.le_of_eq rfl) (by decide) (fun T6 h6 L6 X6 e6 N6 Kq6 B6 => ?_)
  have A6 : ag0 Z h6 br_1 [c0] := B6
  have K6 := Keep.trans K1 Kq6 (allS (Or.inr aq3) all0)
  show ac0 p e below P (T6.setTop (mkF m 20 #[.val (.ref o0), .val (.ref o1), .val (.ref br_1)] []))
  refine ab0 X6 hx (hb hby ax7) rfl rfl ?_
  have Ar7 : ag0 Z h6 br_1 [c0] := A6
  have hfin : (fun (v : Option Value) (h : Heap) (L : List Loc) => ∃ (br : Addr), v = some (.ref br) ∧ Fr n0 L ∧ Keep h0 h [] ∧ h0.size ≤ br ∧ n0 ≤ br ∧ ag0 Z h br [c0]) (some (.ref br_1)) h6 _ := ⟨br_1, rfl, N6, K6, aq3, ac3, Ar7⟩
  refine as1 X6 hx hlk hP rfl rfl hrt (hb hby ay7) (by decide) (by decide) ?_
  rw [e6]; exact hfin
theorem d4 (m : MethodId) (o0 : Addr) (o1 : Addr) : entryFrame m #[(.ref o0), (.ref o1)] 3 = mkF m 0 #[.val (.ref o0), .val (.ref o1), .unset] [] := by first | (simp [entryFrame, mkF, argsToLocals, Value.category]; done) | rfl
set_option maxRecDepth 65536 in
set_option maxHeartbeats 40000000 in
theorem dk9 (l : Launch) (Z : State) (a0 : Array Value) (hw : ∀ d ∈ tables_1, d.before a0 Z = true) (ws : List Jvm.Cond) (o0 : Addr) (o1 : Addr) (c0 : Int32) (d0 : Int32) (h0 : Heap) (n0 : Nat) (Z0 : n0 ≤ h0.size) (A_o0 : ag0 Z h0 o0 [c0]) (A_o1 : ag0 Z h0 o1 [d0]) :
    as0 l Z (⟨z_s3, "concatenate", "([I[I)[I"⟩ : MethodName) prog_6_method_13_code 3 (some (.array .int)) ws ({ frames := 2, cells := 1, slots := 4, locals := 61 } : Room) #[(.ref o0), (.ref o1)] h0 (fun (v : Option Value) (h : Heap) (L : List Loc) => ∃ (br : Addr), v = some (.ref br) ∧ Fr n0 L ∧ Keep h0 h [] ∧ h0.size ≤ br ∧ n0 ≤ br ∧ ag0 Z h br [c0, d0]) := by
  refine aq0 (plainFor_of_name an0) ?_
  intro p e s m below meth c s₁ P hx hby hml hrt hlk hown hnm hZ X0 e0 hP
  have N0 := Fr.nil n0
  have K0 := Keep.refl h0 []
  have hml' : c.maxLocals = 3 := hml
  refine ar0 (d4 m o0 o1) ?_
  show ac0 p e below P (s₁.setTop (mkF m 0 #[.val (.ref o0), .val (.ref o1), .unset] []))
  refine ab0 X0 hx (hb hby ap8) rfl rfl ?_
  refine ab0 X0 hx (hb hby aq8) rfl rfl ?_
  refine ah1 X0 hx hZ e0 A_o0 (z := (1 : Int32)) rfl (hb hby ar8) ?_
  refine ab0 X0 hx (hb hby as8) rfl rfl ?_
  refine ah1 X0 hx hZ e0 A_o1 (z := (1 : Int32)) rfl (hb hby at8) ?_
  refine am2 X0 hx (hb hby au8) (z := (2 : Int32)) rfl ?_
  refine af1 X0 hx hZ (y := (⟨z_s5, "copyOf", "([II)[I"⟩ : MethodName)) hown (z_w hw 199 rfl) (z_w hw 200 rfl) (z_w hw 112 rfl) (z_w hw 201 rfl) (do3 l Z a0 hw [] o0 c0 h0 n0 (Nat.le_trans Z0 K0.1) A_o0) 0 e0 hml' (argsL := [(.ref o0), (.int (2 : Int32))]) (rest := []) (lenOf ah2 rfl) (hb hby av8) (fun r1 T1 L1 X1 hQ1 => ?_)
  obtain ⟨br_1, rfl, Nq1, Kq1, ao2, ac3, f0_1⟩ := hQ1
  have N1 := Fr.app N0 Nq1
  have ne2 := z_nc A_o0.lt ao2
  have ne3 := z_nc A_o1.lt ao2
  have aq3 := Nat.le_trans K0.1 ao2
  have K1 := Keep.trans K0 Kq1 all0
  show ac0 p e below P (T1.setTop (mkF m 9 #[.val (.ref o0), .val (.ref o1), .unset] [(.ref br_1)]))
  refine av2 X1 hx (hb hby aw8) rfl (l' := #[.val (.ref o0), .val (.ref o1), .val (.ref br_1)]) rfl ?_
  refine ab0 X1 hx (hb hby ap7) rfl rfl ?_
  refine am0 X1 hx (hb hby aq7) (z := (0 : Int32)) rfl ?_
  refine ab0 X1 hx (hb hby ar7) rfl rfl ?_
  refine ab0 X1 hx (hb hby as7) rfl rfl ?_
  have G4 := (A_o0.keep Kq1 nin0)
  refine ah1 X1 hx hZ rfl G4 (z := (1 : Int32)) rfl (hb hby at7) ?_
  refine ab0 X1 hx (hb hby au7) rfl rfl ?_
  have G5 := (A_o1.keep Kq1 nin0)
  refine ah1 X1 hx hZ rfl G5 (z := (1 : Int32)) rfl (hb hby av7) ?_
  refine ap4 X1 hx hZ hown (z_w hw 204 rfl) (z_w hw 93 rfl) (z_w hw 91 rfl) (z_w hw 92 rfl) rfl G5 f0_1 (sp := 0) (dp := 1) (n := 1) (by decide) (by decide) (by decide) (by simp) (by simp) N1 ac3 (g := (mkF m 17 #[.val (.ref o0), .val (.ref o1), .val (.ref br_1)] [(.int (1 : Int32)), (.int (1 : Int32)), (.ref br_1), (.int (0 : Int32)), (.ref o1)])) rfl (by rw [hml']; rfl) rfl (hb hby aw7) (by decide) 0 (by show 2 * 0 + _ ≤ _; exact Nat.le_of_eq rfl) (by decide) (fun T6 h6 L6 X6 e6 N6 Kq6 B6 => ?_)
  have A6 : ag0 Z h6 br_1 [c0, d0] := B6
  have K6 := Keep.trans K1 Kq6 (allS (Or.inr aq3) all0)
  show ac0 p e below P (T6.setTop (mkF m 20 #[.val (.ref o0), .val (.ref o1), .val (.ref br_1)] []))
  refine ab0 X6 hx (hb hby ax7) rfl rfl ?_
  have Ar7 : ag0 Z h6 br_1 [c0, d0] := A6
  have hfin : (fun (v : Option Value) (h : Heap) (L : List Loc) => ∃ (br : Addr), v = some (.ref br) ∧ Fr n0 L ∧ Keep h0 h [] ∧ h0.size ≤ br ∧ n0 ≤ br ∧ ag0 Z h br [c0, d0]) (some (.ref br_1)) h6 _ := ⟨br_1, rfl, N6, K6, aq3, ac3, Ar7⟩
  refine as1 X6 hx hlk hP rfl rfl hrt (hb hby ay7) (by decide) (by decide) ?_
  rw [e6]; exact hfin
theorem da4 (m : MethodId) (o0 : Addr) (o1 : Addr) : entryFrame m #[(.ref o0), (.ref o1)] 3 = mkF m 0 #[.val (.ref o0), .val (.ref o1), .unset] [] := by first | (simp [entryFrame, mkF, argsToLocals, Value.category]; done) | rfl
set_option maxRecDepth 65536 in
set_option maxHeartbeats 40000000 in
theorem dl9 (l : Launch) (Z : State) (a0 : Array Value) (hw : ∀ d ∈ tables_1, d.before a0 Z = true) (ws : List Jvm.Cond) (o0 : Addr) (o1 : Addr) (c0 : Int32) (d0 : Int32) (d1 : Int32) (h0 : Heap) (n0 : Nat) (Z0 : n0 ≤ h0.size) (A_o0 : ag0 Z h0 o0 [c0]) (A_o1 : ag0 Z h0 o1 [d0, d1]) :
    as0 l Z (⟨z_s3, "concatenate", "([I[I)[I"⟩ : MethodName) prog_6_method_13_code 3 (some (.array .int)) ws ({ frames := 2, cells := 1, slots := 4, locals := 61 } : Room) #[(.ref o0), (.ref o1)] h0 (fun (v : Option Value) (h : Heap) (L : List Loc) => ∃ (br : Addr), v = some (.ref br) ∧ Fr n0 L ∧ Keep h0 h [] ∧ h0.size ≤ br ∧ n0 ≤ br ∧ ag0 Z h br [c0, d0, d1]) := by
  refine aq0 (plainFor_of_name an0) ?_
  intro p e s m below meth c s₁ P hx hby hml hrt hlk hown hnm hZ X0 e0 hP
  have N0 := Fr.nil n0
  have K0 := Keep.refl h0 []
  have hml' : c.maxLocals = 3 := hml
  refine ar0 (da4 m o0 o1) ?_
  show ac0 p e below P (s₁.setTop (mkF m 0 #[.val (.ref o0), .val (.ref o1), .unset] []))
  refine ab0 X0 hx (hb hby ap8) rfl rfl ?_
  refine ab0 X0 hx (hb hby aq8) rfl rfl ?_
  refine ah1 X0 hx hZ e0 A_o0 (z := (1 : Int32)) rfl (hb hby ar8) ?_
  refine ab0 X0 hx (hb hby as8) rfl rfl ?_
  refine ah1 X0 hx hZ e0 A_o1 (z := (2 : Int32)) rfl (hb hby at8) ?_
  refine am2 X0 hx (hb hby au8) (z := (3 : Int32)) rfl ?_
  refine af1 X0 hx hZ (y := (⟨z_s5, "copyOf", "([II)[I"⟩ : MethodName)) hown (z_w hw 199 rfl) (z_w hw 200 rfl) (z_w hw 112 rfl) (z_w hw 201 rfl) (dp3 l Z a0 hw [] o0 c0 h0 n0 (Nat.le_trans Z0 K0.1) A_o0) 0 e0 hml' (argsL := [(.ref o0), (.int (3 : Int32))]) (rest := []) (lenOf ah2 rfl) (hb hby av8) (fun r1 T1 L1 X1 hQ1 => ?_)
  obtain ⟨br_1, rfl, Nq1, Kq1, ao2, ac3, f0_1⟩ := hQ1
  have N1 := Fr.app N0 Nq1
  have ne2 := z_nc A_o0.lt ao2
  have ne3 := z_nc A_o1.lt ao2
  have aq3 := Nat.le_trans K0.1 ao2
  have K1 := Keep.trans K0 Kq1 all0
  show ac0 p e below P (T1.setTop (mkF m 9 #[.val (.ref o0), .val (.ref o1), .unset] [(.ref br_1)]))
  refine av2 X1 hx (hb hby aw8) rfl (l' := #[.val (.ref o0), .val (.ref o1), .val (.ref br_1)]) rfl ?_
  refine ab0 X1 hx (hb hby ap7) rfl rfl ?_
  refine am0 X1 hx (hb hby aq7) (z := (0 : Int32)) rfl ?_
  refine ab0 X1 hx (hb hby ar7) rfl rfl ?_
  refine ab0 X1 hx (hb hby as7) rfl rfl ?_
  have G4 := (A_o0.keep Kq1 nin0)
  refine ah1 X1 hx hZ rfl G4 (z := (1 : Int32)) rfl (hb hby at7) ?_
  refine ab0 X1 hx (hb hby au7) rfl rfl ?_
  have G5 := (A_o1.keep Kq1 nin0)
  refine ah1 X1 hx hZ rfl G5 (z := (2 : Int32)) rfl (hb hby av7) ?_
  refine ap4 X1 hx hZ hown (z_w hw 204 rfl) (z_w hw 93 rfl) (z_w hw 91 rfl) (z_w hw 92 rfl) rfl G5 f0_1 (sp := 0) (dp := 1) (n := 2) (by decide) (by decide) (by decide) (by simp) (by simp) N1 ac3 (g := (mkF m 17 #[.val (.ref o0), .val (.ref o1), .val (.ref br_1)] [(.int (2 : Int32)), (.int (1 : Int32)), (.ref br_1), (.int (0 : Int32)), (.ref o1)])) rfl (by rw [hml']; rfl) rfl (hb hby aw7) (by decide) 0 (by show 2 * 0 + _ ≤ _; exact Nat.le_of_eq rfl) (by decide) (fun T6 h6 L6 X6 e6 N6 Kq6 B6 => ?_)
  have A6 : ag0 Z h6 br_1 [c0, d0, d1] := B6
  have K6 := Keep.trans K1 Kq6 (allS (Or.inr aq3) all0)
  show ac0 p e below P (T6.setTop (mkF m 20 #[.val (.ref o0), .val (.ref o1), .val (.ref br_1)] []))
  refine ab0 X6 hx (hb hby ax7) rfl rfl ?_
  have Ar7 : ag0 Z h6 br_1 [c0, d0, d1] := A6
  have hfin : (fun (v : Option Value) (h : Heap) (L : List Loc) => ∃ (br : Addr), v = some (.ref br) ∧ Fr n0 L ∧ Keep h0 h [] ∧ h0.size ≤ br ∧ n0 ≤ br ∧ ag0 Z h br [c0, d0, d1]) (some (.ref br_1)) h6 _ := ⟨br_1, rfl, N6, K6, aq3, ac3, Ar7⟩
  refine as1 X6 hx hlk hP rfl rfl hrt (hb hby ay7) (by decide) (by decide) ?_
  rw [e6]; exact hfin
theorem db4 (m : MethodId) (o0 : Addr) (o1 : Addr) : entryFrame m #[(.ref o0), (.ref o1)] 3 = mkF m 0 #[.val (.ref o0), .val (.ref o1), .unset] [] := by first | (simp [entryFrame, mkF, argsToLocals, Value.category]; done) | rfl
set_option maxRecDepth 65536 in
set_option maxHeartbeats 40000000 in
theorem dm9 (l : Launch) (Z : State) (a0 : Array Value) (hw : ∀ d ∈ tables_1, d.before a0 Z = true) (ws : List Jvm.Cond) (o0 : Addr) (o1 : Addr) (c0 : Int32) (c1 : Int32) (h0 : Heap) (n0 : Nat) (Z0 : n0 ≤ h0.size) (A_o0 : ag0 Z h0 o0 [c0, c1]) (A_o1 : ag0 Z h0 o1 ([] : List Int32)) :
    as0 l Z (⟨z_s3, "concatenate", "([I[I)[I"⟩ : MethodName) prog_6_method_13_code 3 (some (.array .int)) ws ({ frames := 2, cells := 1, slots := 4, locals := 61 } : Room) #[(.ref o0), (.ref o1)] h0 (fun (v : Option Value) (h : Heap) (L : List Loc) => ∃ (br : Addr), v = some (.ref br) ∧ Fr n0 L ∧ Keep h0 h [] ∧ h0.size ≤ br ∧ n0 ≤ br ∧ ag0 Z h br [c0, c1]) := by
  refine aq0 (plainFor_of_name an0) ?_
  intro p e s m below meth c s₁ P hx hby hml hrt hlk hown hnm hZ X0 e0 hP
  have N0 := Fr.nil n0
  have K0 := Keep.refl h0 []
  have hml' : c.maxLocals = 3 := hml
  refine ar0 (db4 m o0 o1) ?_
  show ac0 p e below P (s₁.setTop (mkF m 0 #[.val (.ref o0), .val (.ref o1), .unset] []))
  refine ab0 X0 hx (hb hby ap8) rfl rfl ?_
  refine ab0 X0 hx (hb hby aq8) rfl rfl ?_
  refine ah1 X0 hx hZ e0 A_o0 (z := (2 : Int32)) rfl (hb hby ar8) ?_
  refine ab0 X0 hx (hb hby as8) rfl rfl ?_
  refine ah1 X0 hx hZ e0 A_o1 (z := (0 : Int32)) rfl (hb hby at8) ?_
  refine am2 X0 hx (hb hby au8) (z := (2 : Int32)) rfl ?_
  refine af1 X0 hx hZ (y := (⟨z_s5, "copyOf", "([II)[I"⟩ : MethodName)) hown (z_w hw 199 rfl) (z_w hw 200 rfl) (z_w hw 112 rfl) (z_w hw 201 rfl) (dr3 l Z a0 hw [] o0 c0 c1 h0 n0 (Nat.le_trans Z0 K0.1) A_o0) 0 e0 hml' (argsL := [(.ref o0), (.int (2 : Int32))]) (rest := []) (lenOf ah2 rfl) (hb hby av8) (fun r1 T1 L1 X1 hQ1 => ?_)
  obtain ⟨br_1, rfl, Nq1, Kq1, ao2, ac3, f0_1⟩ := hQ1
  have N1 := Fr.app N0 Nq1
  have ne2 := z_nc A_o0.lt ao2
  have ne3 := z_nc A_o1.lt ao2
  have aq3 := Nat.le_trans K0.1 ao2
  have K1 := Keep.trans K0 Kq1 all0
  show ac0 p e below P (T1.setTop (mkF m 9 #[.val (.ref o0), .val (.ref o1), .unset] [(.ref br_1)]))
  refine av2 X1 hx (hb hby aw8) rfl (l' := #[.val (.ref o0), .val (.ref o1), .val (.ref br_1)]) rfl ?_
  refine ab0 X1 hx (hb hby ap7) rfl rfl ?_
  refine am0 X1 hx (hb hby aq7) (z := (0 : Int32)) rfl ?_
  refine ab0 X1 hx (hb hby ar7) rfl rfl ?_
  refine ab0 X1 hx (hb hby as7) rfl rfl ?_
  have G4 := (A_o0.keep Kq1 nin0)
  refine ah1 X1 hx hZ rfl G4 (z := (2 : Int32)) rfl (hb hby at7) ?_
  refine ab0 X1 hx (hb hby au7) rfl rfl ?_
  have G5 := (A_o1.keep Kq1 nin0)
  refine ah1 X1 hx hZ rfl G5 (z := (0 : Int32)) rfl (hb hby av7) ?_
  refine ap4 X1 hx hZ hown (z_w hw 204 rfl) (z_w hw 93 rfl) (z_w hw 91 rfl) (z_w hw 92 rfl) rfl G5 f0_1 (sp := 0) (dp := 2) (n := 0) (by decide) (by decide) (by decide) (by simp) (by simp) N1 ac3 (g := (mkF m 17 #[.val (.ref o0), .val (.ref o1), .val (.ref br_1)] [(.int (0 : Int32)), (.int (2 : Int32)), (.ref br_1), (.int (0 : Int32)), (.ref o1)])) rfl (by rw [hml']; rfl) rfl (hb hby aw7) (by decide) 0 (by show 2 * 0 + _ ≤ _; exact Nat.le_of_eq rfl) (by decide) (fun T6 h6 L6 X6 e6 N6 Kq6 B6 => ?_)
  have A6 : ag0 Z h6 br_1 [c0, c1] := B6
  have K6 := Keep.trans K1 Kq6 (allS (Or.inr aq3) all0)
  show ac0 p e below P (T6.setTop (mkF m 20 #[.val (.ref o0), .val (.ref o1), .val (.ref br_1)] []))
  refine ab0 X6 hx (hb hby ax7) rfl rfl ?_
  have Ar7 : ag0 Z h6 br_1 [c0, c1] := A6
  have hfin : (fun (v : Option Value) (h : Heap) (L : List Loc) => ∃ (br : Addr), v = some (.ref br) ∧ Fr n0 L ∧ Keep h0 h [] ∧ h0.size ≤ br ∧ n0 ≤ br ∧ ag0 Z h br [c0, c1]) (some (.ref br_1)) h6 _ := ⟨br_1, rfl, N6, K6, aq3, ac3, Ar7⟩
  refine as1 X6 hx hlk hP rfl rfl hrt (hb hby ay7) (by decide) (by decide) ?_
  rw [e6]; exact hfin
theorem dc4 (m : MethodId) (o0 : Addr) (o1 : Addr) : entryFrame m #[(.ref o0), (.ref o1)] 3 = mkF m 0 #[.val (.ref o0), .val (.ref o1), .unset] [] := by first | (simp [entryFrame, mkF, argsToLocals, Value.category]; done) | rfl
set_option maxRecDepth 65536 in
set_option maxHeartbeats 40000000 in
theorem dn9 (l : Launch) (Z : State) (a0 : Array Value) (hw : ∀ d ∈ tables_1, d.before a0 Z = true) (ws : List Jvm.Cond) (o0 : Addr) (o1 : Addr) (c0 : Int32) (c1 : Int32) (d0 : Int32) (h0 : Heap) (n0 : Nat) (Z0 : n0 ≤ h0.size) (A_o0 : ag0 Z h0 o0 [c0, c1]) (A_o1 : ag0 Z h0 o1 [d0]) :
    as0 l Z (⟨z_s3, "concatenate", "([I[I)[I"⟩ : MethodName) prog_6_method_13_code 3 (some (.array .int)) ws ({ frames := 2, cells := 1, slots := 4, locals := 61 } : Room) #[(.ref o0), (.ref o1)] h0 (fun (v : Option Value) (h : Heap) (L : List Loc) => ∃ (br : Addr), v = some (.ref br) ∧ Fr n0 L ∧ Keep h0 h [] ∧ h0.size ≤ br ∧ n0 ≤ br ∧ ag0 Z h br [c0, c1, d0]) := by
  refine aq0 (plainFor_of_name an0) ?_
  intro p e s m below meth c s₁ P hx hby hml hrt hlk hown hnm hZ X0 e0 hP
  have N0 := Fr.nil n0
  have K0 := Keep.refl h0 []
  have hml' : c.maxLocals = 3 := hml
  refine ar0 (dc4 m o0 o1) ?_
  show ac0 p e below P (s₁.setTop (mkF m 0 #[.val (.ref o0), .val (.ref o1), .unset] []))
  refine ab0 X0 hx (hb hby ap8) rfl rfl ?_
  refine ab0 X0 hx (hb hby aq8) rfl rfl ?_
  refine ah1 X0 hx hZ e0 A_o0 (z := (2 : Int32)) rfl (hb hby ar8) ?_
  refine ab0 X0 hx (hb hby as8) rfl rfl ?_
  refine ah1 X0 hx hZ e0 A_o1 (z := (1 : Int32)) rfl (hb hby at8) ?_
  refine am2 X0 hx (hb hby au8) (z := (3 : Int32)) rfl ?_
  refine af1 X0 hx hZ (y := (⟨z_s5, "copyOf", "([II)[I"⟩ : MethodName)) hown (z_w hw 199 rfl) (z_w hw 200 rfl) (z_w hw 112 rfl) (z_w hw 201 rfl) (ds3 l Z a0 hw [] o0 c0 c1 h0 n0 (Nat.le_trans Z0 K0.1) A_o0) 0 e0 hml' (argsL := [(.ref o0), (.int (3 : Int32))]) (rest := []) (lenOf ah2 rfl) (hb hby av8) (fun r1 T1 L1 X1 hQ1 => ?_)
  obtain ⟨br_1, rfl, Nq1, Kq1, ao2, ac3, f0_1⟩ := hQ1
  have N1 := Fr.app N0 Nq1
  have ne2 := z_nc A_o0.lt ao2
  have ne3 := z_nc A_o1.lt ao2
  have aq3 := Nat.le_trans K0.1 ao2
  have K1 := Keep.trans K0 Kq1 all0
  show ac0 p e below P (T1.setTop (mkF m 9 #[.val (.ref o0), .val (.ref o1), .unset] [(.ref br_1)]))
  refine av2 X1 hx (hb hby aw8) rfl (l' := #[.val (.ref o0), .val (.ref o1), .val (.ref br_1)]) rfl ?_
  refine ab0 X1 hx (hb hby ap7) rfl rfl ?_
  refine am0 X1 hx (hb hby aq7) (z := (0 : Int32)) rfl ?_
  refine ab0 X1 hx (hb hby ar7) rfl rfl ?_
  refine ab0 X1 hx (hb hby as7) rfl rfl ?_
  have G4 := (A_o0.keep Kq1 nin0)
  refine ah1 X1 hx hZ rfl G4 (z := (2 : Int32)) rfl (hb hby at7) ?_
  refine ab0 X1 hx (hb hby au7) rfl rfl ?_
  have G5 := (A_o1.keep Kq1 nin0)
  refine ah1 X1 hx hZ rfl G5 (z := (1 : Int32)) rfl (hb hby av7) ?_
  refine ap4 X1 hx hZ hown (z_w hw 204 rfl) (z_w hw 93 rfl) (z_w hw 91 rfl) (z_w hw 92 rfl) rfl G5 f0_1 (sp := 0) (dp := 2) (n := 1) (by decide) (by decide) (by decide) (by simp) (by simp) N1 ac3 (g := (mkF m 17 #[.val (.ref o0), .val (.ref o1), .val (.ref br_1)] [(.int (1 : Int32)), (.int (2 : Int32)), (.ref br_1), (.int (0 : Int32)), (.ref o1)])) rfl (by rw [hml']; rfl) rfl (hb hby aw7) (by decide) 0 (by show 2 * 0 + _ ≤ _; exact Nat.le_of_eq rfl) (by decide) (fun T6 h6 L6 X6 e6 N6 Kq6 B6 => ?_)
  have A6 : ag0 Z h6 br_1 [c0, c1, d0] := B6
  have K6 := Keep.trans K1 Kq6 (allS (Or.inr aq3) all0)
  show ac0 p e below P (T6.setTop (mkF m 20 #[.val (.ref o0), .val (.ref o1), .val (.ref br_1)] []))
  refine ab0 X6 hx (hb hby ax7) rfl rfl ?_
  have Ar7 : ag0 Z h6 br_1 [c0, c1, d0] := A6
  have hfin : (fun (v : Option Value) (h : Heap) (L : List Loc) => ∃ (br : Addr), v = some (.ref br) ∧ Fr n0 L ∧ Keep h0 h [] ∧ h0.size ≤ br ∧ n0 ≤ br ∧ ag0 Z h br [c0, c1, d0]) (some (.ref br_1)) h6 _ := ⟨br_1, rfl, N6, K6, aq3, ac3, Ar7⟩
  refine as1 X6 hx hlk hP rfl rfl hrt (hb hby ay7) (by decide) (by decide) ?_
  rw [e6]; exact hfin
theorem dd4 (m : MethodId) (o0 : Addr) (o1 : Addr) : entryFrame m #[(.ref o0), (.ref o1)] 3 = mkF m 0 #[.val (.ref o0), .val (.ref o1), .unset] [] := by first | (simp [entryFrame, mkF, argsToLocals, Value.category]; done) | rfl
set_option maxRecDepth 65536 in
set_option maxHeartbeats 40000000 in
theorem do9 (l : Launch) (Z : State) (a0 : Array Value) (hw : ∀ d ∈ tables_1, d.before a0 Z = true) (ws : List Jvm.Cond) (o0 : Addr) (o1 : Addr) (c0 : Int32) (c1 : Int32) (d0 : Int32) (d1 : Int32) (h0 : Heap) (n0 : Nat) (Z0 : n0 ≤ h0.size) (A_o0 : ag0 Z h0 o0 [c0, c1]) (A_o1 : ag0 Z h0 o1 [d0, d1]) :
    as0 l Z (⟨z_s3, "concatenate", "([I[I)[I"⟩ : MethodName) prog_6_method_13_code 3 (some (.array .int)) ws ({ frames := 2, cells := 1, slots := 4, locals := 61 } : Room) #[(.ref o0), (.ref o1)] h0 (fun (v : Option Value) (h : Heap) (L : List Loc) => ∃ (br : Addr), v = some (.ref br) ∧ Fr n0 L ∧ Keep h0 h [] ∧ h0.size ≤ br ∧ n0 ≤ br ∧ ag0 Z h br [c0, c1, d0, d1]) := by
  refine aq0 (plainFor_of_name an0) ?_
  intro p e s m below meth c s₁ P hx hby hml hrt hlk hown hnm hZ X0 e0 hP
  have N0 := Fr.nil n0
  have K0 := Keep.refl h0 []
  have hml' : c.maxLocals = 3 := hml
  refine ar0 (dd4 m o0 o1) ?_
  show ac0 p e below P (s₁.setTop (mkF m 0 #[.val (.ref o0), .val (.ref o1), .unset] []))
  refine ab0 X0 hx (hb hby ap8) rfl rfl ?_
  refine ab0 X0 hx (hb hby aq8) rfl rfl ?_
  refine ah1 X0 hx hZ e0 A_o0 (z := (2 : Int32)) rfl (hb hby ar8) ?_
  refine ab0 X0 hx (hb hby as8) rfl rfl ?_
  refine ah1 X0 hx hZ e0 A_o1 (z := (2 : Int32)) rfl (hb hby at8) ?_
  refine am2 X0 hx (hb hby au8) (z := (4 : Int32)) rfl ?_
  refine af1 X0 hx hZ (y := (⟨z_s5, "copyOf", "([II)[I"⟩ : MethodName)) hown (z_w hw 199 rfl) (z_w hw 200 rfl) (z_w hw 112 rfl) (z_w hw 201 rfl) (dt3 l Z a0 hw [] o0 c0 c1 h0 n0 (Nat.le_trans Z0 K0.1) A_o0) 0 e0 hml' (argsL := [(.ref o0), (.int (4 : Int32))]) (rest := []) (lenOf ah2 rfl) (hb hby av8) (fun r1 T1 L1 X1 hQ1 => ?_)
  obtain ⟨br_1, rfl, Nq1, Kq1, ao2, ac3, f0_1⟩ := hQ1
  have N1 := Fr.app N0 Nq1
  have ne2 := z_nc A_o0.lt ao2
  have ne3 := z_nc A_o1.lt ao2
  have aq3 := Nat.le_trans K0.1 ao2
  have K1 := Keep.trans K0 Kq1 all0
  show ac0 p e below P (T1.setTop (mkF m 9 #[.val (.ref o0), .val (.ref o1), .unset] [(.ref br_1)]))
  refine av2 X1 hx (hb hby aw8) rfl (l' := #[.val (.ref o0), .val (.ref o1), .val (.ref br_1)]) rfl ?_
  refine ab0 X1 hx (hb hby ap7) rfl rfl ?_
  refine am0 X1 hx (hb hby aq7) (z := (0 : Int32)) rfl ?_
  refine ab0 X1 hx (hb hby ar7) rfl rfl ?_
  refine ab0 X1 hx (hb hby as7) rfl rfl ?_
  have G4 := (A_o0.keep Kq1 nin0)
  refine ah1 X1 hx hZ rfl G4 (z := (2 : Int32)) rfl (hb hby at7) ?_
  refine ab0 X1 hx (hb hby au7) rfl rfl ?_
  have G5 := (A_o1.keep Kq1 nin0)
  refine ah1 X1 hx hZ rfl G5 (z := (2 : Int32)) rfl (hb hby av7) ?_
  refine ap4 X1 hx hZ hown (z_w hw 204 rfl) (z_w hw 93 rfl) (z_w hw 91 rfl) (z_w hw 92 rfl) rfl G5 f0_1 (sp := 0) (dp := 2) (n := 2) (by decide) (by decide) (by decide) (by simp) (by simp) N1 ac3 (g := (mkF m 17 #[.val (.ref o0), .val (.ref o1), .val (.ref br_1)] [(.int (2 : Int32)), (.int (2 : Int32)), (.ref br_1), (.int (0 : Int32)), (.ref o1)])) rfl (by rw [hml']; rfl) rfl (hb hby aw7) (by decide) 0 (by show 2 * 0 + _ ≤ _; exact Nat.le_of_eq rfl) (by decide) (fun T6 h6 L6 X6 e6 N6 Kq6 B6 => ?_)
  have A6 : ag0 Z h6 br_1 [c0, c1, d0, d1] := B6
  have K6 := Keep.trans K1 Kq6 (allS (Or.inr aq3) all0)
  show ac0 p e below P (T6.setTop (mkF m 20 #[.val (.ref o0), .val (.ref o1), .val (.ref br_1)] []))
  refine ab0 X6 hx (hb hby ax7) rfl rfl ?_
  have Ar7 : ag0 Z h6 br_1 [c0, c1, d0, d1] := A6
  have hfin : (fun (v : Option Value) (h : Heap) (L : List Loc) => ∃ (br : Addr), v = some (.ref br) ∧ Fr n0 L ∧ Keep h0 h [] ∧ h0.size ≤ br ∧ n0 ≤ br ∧ ag0 Z h br [c0, c1, d0, d1]) (some (.ref br_1)) h6 _ := ⟨br_1, rfl, N6, K6, aq3, ac3, Ar7⟩
  refine as1 X6 hx hlk hP rfl rfl hrt (hb hby ay7) (by decide) (by decide) ?_
  rw [e6]; exact hfin
set_option maxRecDepth 65536 in
set_option maxHeartbeats 40000000 in
theorem ed2 (l : Launch) (Z : State) (a0 : Array Value) (hw : ∀ d ∈ tables_1, d.before a0 Z = true) (ws : List Jvm.Cond) (o0 : Addr) (o1 : Addr) (xs : List Int32) (ys : List Int32) (h0 : Heap) (n0 : Nat) (Z0 : n0 ≤ h0.size) (A_o0 : ag0 Z h0 o0 xs) (A_o1 : ag0 Z h0 o1 ys) (hx : xs.length ≤ 2) (hy : ys.length ≤ 2) :
    as0 l Z (⟨z_s3, "concatenate", "([I[I)[I"⟩ : MethodName) prog_6_method_13_code 3 (some (.array .int)) ws ({ frames := 2, cells := 1, slots := 4, locals := 61 } : Room) #[(.ref o0), (.ref o1)] h0 (fun (v : Option Value) (h : Heap) (L : List Loc) => ∃ (br : Addr), v = some (.ref br) ∧ Fr n0 L ∧ Keep h0 h [] ∧ h0.size ≤ br ∧ n0 ≤ br ∧ ag0 Z h br (xs ++ ys)) := by
  rcases da0 hx with rfl | ⟨c0, rfl⟩ | ⟨c0, c1, rfl⟩ <;> rcases da0 hy with rfl | ⟨d0, rfl⟩ | ⟨d0, d1, rfl⟩
  · exact dg9 l Z a0 hw ws o0 o1  h0 n0 Z0 A_o0 A_o1
  · exact dh9 l Z a0 hw ws o0 o1 d0 h0 n0 Z0 A_o0 A_o1
  · exact di9 l Z a0 hw ws o0 o1 d0 d1 h0 n0 Z0 A_o0 A_o1
  · exact dj9 l Z a0 hw ws o0 o1 c0 h0 n0 Z0 A_o0 A_o1
  · exact dk9 l Z a0 hw ws o0 o1 c0 d0 h0 n0 Z0 A_o0 A_o1
  · exact dl9 l Z a0 hw ws o0 o1 c0 d0 d1 h0 n0 Z0 A_o0 A_o1
  · exact dm9 l Z a0 hw ws o0 o1 c0 c1 h0 n0 Z0 A_o0 A_o1
  · exact dn9 l Z a0 hw ws o0 o1 c0 c1 d0 h0 n0 Z0 A_o0 A_o1
  · exact do9 l Z a0 hw ws o0 o1 c0 c1 d0 d1 h0 n0 Z0 A_o0 A_o1
theorem br6 : decode prog_6_method_14_code 0 = .ok (.aload_n 0, 1) := by decide +kernel
theorem bs6 : decode prog_6_method_14_code 1 = .ok (.new 79, 3) := by decide +kernel
theorem bt6 : decode prog_6_method_14_code 4 = .ok (.dup, 1) := by decide +kernel
theorem bu6 : decode prog_6_method_14_code 5 = .ok (.invokespecial 81, 3) := by decide +kernel
theorem bj1 : parseMethodDescriptor "()V" = some ⟨[], none⟩ := by decide +kernel
theorem bv6 : decode prog_6_method_14_code 8 = .ok (.aload_n 1, 1) := by decide +kernel
theorem bw6 : decode prog_6_method_14_code 9 = .ok (.invokevirtual 82, 3) := by decide +kernel
theorem ag1 : parseMethodDescriptor z_s4 = some ⟨[(.object z_s1)], some (.object z_s2)⟩ := by decide +kernel
theorem bb4 : decode prog_6_method_14_code 12 = .ok (.ldc 86, 2) := by decide +kernel
theorem bc4 : decode prog_6_method_14_code 14 = .ok (.invokevirtual 82, 3) := by decide +kernel
theorem bd4 : decode prog_6_method_14_code 17 = .ok (.invokevirtual 88, 3) := by decide +kernel
theorem ar4 : parseMethodDescriptor "()Ljava/lang/String;" = some ⟨[], some (.object z_s1)⟩ := by decide +kernel
theorem be4 : decode prog_6_method_14_code 20 = .ok (.invokestatic 49, 3) := by decide +kernel
theorem aw1 : parseMethodDescriptor co1 = some ⟨[(.object "java/lang/Object"), (.object z_s1)], some (.object "java/lang/Object")⟩ := by decide +kernel
theorem bf4 : decode prog_6_method_14_code 23 = .ok (.pop, 1) := by decide +kernel
theorem bg4 : decode prog_6_method_14_code 24 = .ok (.aload_n 0, 1) := by decide +kernel
theorem bh4 : decode prog_6_method_14_code 25 = .ok (.invokevirtual 42, 3) := by decide +kernel
theorem bi4 : decode prog_6_method_14_code 28 = .ok (.checkcast 43, 3) := by decide +kernel
theorem bj4 : decode prog_6_method_14_code 31 = .ok (.astore_n 2, 1) := by decide +kernel
theorem bk4 : decode prog_6_method_14_code 32 = .ok (.aload_n 2, 1) := by decide +kernel
theorem bl4 : decode prog_6_method_14_code 33 = .ok (.invokestatic 92, 3) := by decide +kernel
theorem ao9 : parseMethodDescriptor "([I)V" = some ⟨[(.array .int)], none⟩ := by decide +kernel
theorem bm4 : decode prog_6_method_14_code 36 = .ok (.aload_n 2, 1) := by decide +kernel
theorem bn4 : decode prog_6_method_14_code 37 = .ok (.arraylength, 1) := by decide +kernel
theorem bo4 : decode prog_6_method_14_code 38 = .ok (.ifCond .le 42, 3) := by decide +kernel
theorem be7 : decode prog_6_method_14_code 41 = .ok (.aload_n 2, 1) := by decide +kernel
theorem bf7 : decode prog_6_method_14_code 42 = .ok (.iconst 0, 1) := by decide +kernel
theorem bg7 : decode prog_6_method_14_code 43 = .ok (.iaload, 1) := by decide +kernel
theorem bh7 : decode prog_6_method_14_code 44 = .ok (.ifCond .ge 36, 3) := by decide +kernel
theorem bp4 : decode prog_6_method_14_code 80 = .ok (.iconst 0, 1) := by decide +kernel
theorem bq4 : decode prog_6_method_14_code 81 = .ok (.istore_n 3, 1) := by decide +kernel
theorem br4 : decode prog_6_method_14_code 82 = .ok (.aload_n 2, 1) := by decide +kernel
theorem bs4 : decode prog_6_method_14_code 83 = .ok (.astore 4, 2) := by decide +kernel
theorem bt4 : decode prog_6_method_14_code 85 = .ok (.aload 4, 2) := by decide +kernel
theorem bu4 : decode prog_6_method_14_code 87 = .ok (.arraylength, 1) := by decide +kernel
theorem bv4 : decode prog_6_method_14_code 88 = .ok (.istore 5, 2) := by decide +kernel
theorem bw4 : decode prog_6_method_14_code 90 = .ok (.iconst 0, 1) := by decide +kernel
theorem bx4 : decode prog_6_method_14_code 91 = .ok (.istore 6, 2) := by decide +kernel
theorem ab2 : decode prog_6_method_14_code 93 = .ok (.iload 6, 2) := by decide +kernel
theorem ac2 : decode prog_6_method_14_code 95 = .ok (.iload 5, 2) := by decide +kernel
theorem ad2 : decode prog_6_method_14_code 97 = .ok (.if_icmp .ge 38, 3) := by decide +kernel
theorem at3 : decode prog_6_method_14_code 100 = .ok (.aload 4, 2) := by decide +kernel
theorem au3 : decode prog_6_method_14_code 102 = .ok (.iload 6, 2) := by decide +kernel
theorem av3 : decode prog_6_method_14_code 104 = .ok (.iaload, 1) := by decide +kernel
theorem aw3 : decode prog_6_method_14_code 105 = .ok (.istore 7, 2) := by decide +kernel
theorem ax3 : decode prog_6_method_14_code 107 = .ok (.iload_n 3, 1) := by decide +kernel
theorem ay3 : decode prog_6_method_14_code 108 = .ok (.ifCond .eq 13, 3) := by decide +kernel
theorem az3 : decode prog_6_method_14_code 121 = .ok (.aload_n 2, 1) := by decide +kernel
theorem aa4 : decode prog_6_method_14_code 122 = .ok (.iload_n 3, 1) := by decide +kernel
theorem ab4 : decode prog_6_method_14_code 123 = .ok (.iinc 3 1, 3) := by decide +kernel
theorem ac4 : decode prog_6_method_14_code 126 = .ok (.iload 7, 2) := by decide +kernel
theorem ad4 : decode prog_6_method_14_code 128 = .ok (.iastore, 1) := by decide +kernel
theorem ak2 : decode prog_6_method_14_code 129 = .ok (.iinc 6 1, 3) := by decide +kernel
theorem al2 : decode prog_6_method_14_code 132 = .ok (.goto (-39), 3) := by decide +kernel
theorem ah5 : decode prog_6_method_14_code 111 = .ok (.aload_n 2, 1) := by decide +kernel
theorem ai5 : decode prog_6_method_14_code 112 = .ok (.iload_n 3, 1) := by decide +kernel
theorem aj5 : decode prog_6_method_14_code 113 = .ok (.iconst 1, 1) := by decide +kernel
theorem ak5 : decode prog_6_method_14_code 114 = .ok (.isub, 1) := by decide +kernel
theorem al5 : decode prog_6_method_14_code 115 = .ok (.iaload, 1) := by decide +kernel
theorem am5 : decode prog_6_method_14_code 116 = .ok (.iload 7, 2) := by decide +kernel
theorem aw2 : decode prog_6_method_14_code 118 = .ok (.if_icmp .eq 11, 3) := by decide +kernel
theorem ah3 : decode prog_6_method_14_code 135 = .ok (.iload_n 3, 1) := by decide +kernel
theorem ai3 : decode prog_6_method_14_code 136 = .ok (.aload_n 2, 1) := by decide +kernel
theorem aj3 : decode prog_6_method_14_code 137 = .ok (.arraylength, 1) := by decide +kernel
theorem ak3 : decode prog_6_method_14_code 138 = .ok (.if_icmp .ne 7, 3) := by decide +kernel
theorem an5 : decode prog_6_method_14_code 145 = .ok (.aload_n 2, 1) := by decide +kernel
theorem ao5 : decode prog_6_method_14_code 146 = .ok (.iload_n 3, 1) := by decide +kernel
theorem ap5 : decode prog_6_method_14_code 147 = .ok (.invokestatic 69, 3) := by decide +kernel
theorem al3 : decode prog_6_method_14_code 150 = .ok (.areturn, 1) := by decide +kernel
theorem bk1 : decode prog_6_method_14_code 141 = .ok (.aload_n 2, 1) := by decide +kernel
theorem bl1 : decode prog_6_method_14_code 142 = .ok (.goto 8, 3) := by decide +kernel
theorem dp9 (m : MethodId) (o0 : Addr) (o1 : Addr) : entryFrame m #[(.ref o0), (.ref o1)] 8 = mkF m 0 #[.val (.ref o0), .val (.ref o1), .unset, .unset, .unset, .unset, .unset, .unset] [] := by first | (simp [entryFrame, mkF, argsToLocals, Value.category]; done) | rfl
set_option maxRecDepth 65536 in
set_option maxHeartbeats 40000000 in
theorem ep1 (l : Launch) (Z : State) (a0 : Array Value) (hw : ∀ d ∈ tables_1, d.before a0 Z = true) (ws : List Jvm.Cond) (o0 : Addr) (o1 : Addr) (n : Nat) (c0 : Int32) (c1 : Int32) (c2 : Int32) (c3 : Int32) (ah0 : Addr) (aa0 : Int32) (h0 : Heap) (n0 : Nat) (Z0 : n0 ≤ h0.size) (E_o1 : Exa Z h0 o1 z_s1) (ac1 : Fld Z h0 o1 z_s1 "value" "[B" (.ref ah0)) (aa1 : Fld Z h0 o1 z_s1 "coder" "B" (.int (0 : Int32))) (af0 : Sta Z h0 z_s1 z_s8 "Z" (.int aa0)) (A_o0 : ag0 Z h0 o0 [c0, c1, c2, c3]) (at0 : ao0 Z h0 ah0 n) (hnz : ¬ (aa0 = (0 : Int32))) (hn : bv2 n) (hn0 : ¬ (c0 < (0 : Int32))) (hn1 : ¬ (c1 < (0 : Int32))) (hn2 : ¬ (c2 < (0 : Int32))) (hn3 : ¬ (c3 < (0 : Int32))) :
    al9 l Z consts_1 (⟨z_s3, "distinct", "([ILjava/lang/String;)[I"⟩ : MethodName) prog_6_method_14_code 8 (some (.array .int)) ws ({ frames := 6, cells := 9, slots := 170, locals := 114 } : Room) #[(.ref o0), (.ref o1)] h0 (fun (v : Option Value) (h : Heap) (L : List Loc) => ∃ (br : Addr) (xr : List Int32), v = some (.ref br) ∧ Fr n0 L ∧ Keep h0 h [] ∧ h0.size ≤ br ∧ n0 ≤ br ∧ ag0 Z h br xr ∧ ((xr.length = 0 ↔ [c0, c1, c2, c3].length = 0) ∧ xr.length ≤ 4)) := by
  refine bo1 (plainFor_of_name an0) ?_
  intro p e s m below meth c s₁ P vm0 k0 hx hby hml hrt hlk hown hnm hZ X0 e0 hS hk hC hP
  have N0 := Fr.nil n0
  have K0 := Keep.refl h0 []
  have hml' : c.maxLocals = 8 := hml
  have hEL := bj7 hw
  refine ar0 (dp9 m o0 o1) ?_
  show ac0 p e below P (s₁.setTop (mkF m 0 #[.val (.ref o0), .val (.ref o1), .unset, .unset, .unset, .unset, .unset, .unset] []))
  refine ab0 X0 hx (hb hby br6) rfl rfl ?_
  obtain ⟨T1, h1, X1, e1, E1, A1, D1, -, st1⟩ := newO X0 hx hZ hown (z_w hw 26 rfl) (z_w hw 27 rfl) (z_w hw 28 rfl) e0 (g := (mkF m 1 #[.val (.ref o0), .val (.ref o1), .unset, .unset, .unset, .unset, .unset, .unset] [(.ref o0)])) rfl (hb hby bs6) (by decide) (by decide)
  obtain ⟨b1, g1⟩ : ∃ z, z = h0.size := ⟨_, rfl⟩
  rw [← g1] at A1 D1 st1
  have hC := hC.trans (CHr.ext E1 hC.1)
  have ne2 := z_nb A_o0.lt g1
  have ne3 := z_nb E_o1.lt g1
  have ne4 := z_nb at0.lt g1
  have ao1 : n0 ≤ b1 := Nat.le_trans (Nat.le_trans Z0 K0.1) (Nat.le_of_eq g1.symm)
  have ay1 : h0.size ≤ b1 := Nat.le_trans K0.1 (Nat.le_of_eq g1.symm)
  have K1 := Keep.ext K0 E1
  have at4 : Fld Z h1 b1 z_s0 "value" "[B" .null := D1 (Or.inl (z_w hw 41 rfl)) (ty := (.array .byte)) (by decide)
  have au4 : Fld Z h1 b1 z_s0 "coder" "B" (.int (0 : Int32)) := D1 (Or.inl (z_w hw 43 rfl)) (ty := .byte) (by decide)
  have ax8 : Fld Z h1 b1 z_s0 "count" "I" (.int (0 : Int32)) := D1 (Or.inl (z_w hw 68 rfl)) (ty := .int) (by decide)
  refine ae1 (fun _ => st1 _) ?_
  show ac0 p e below P (T1.setTop (mkF m 4 #[.val (.ref o0), .val (.ref o1), .unset, .unset, .unset, .unset, .unset, .unset] [(.ref b1), (.ref o0)]))
  refine an6 X1 hx (hb hby bt6) rfl ?_
  have G6 := (af0.ext E1)
  refine ai9 X1 hx hZ (y := (⟨z_s2, "<init>", "()V"⟩ : MethodName)) hown (z_w hw 29 rfl) (z_w hw 30 rfl) (z_w hw 28 rfl) (z_w hw 31 rfl) (bn7 l Z a0 hw [] b1 aa0 h1 n0 (Nat.le_trans Z0 K1.1) A1 at4 au4 ax8 G6 ao1 hnz) 2 e1 hml' (a := b1) (argsL := []) (rest := [(.ref b1), (.ref o0)]) (lenOf bj1 rfl) (hb hby bu6) (fun r5 T5 L5 X5 hQ5 => ?_)
  obtain ⟨b3_1_5, rfl, Nq5, Kq5, af2, ay8, f0_5, f1_5, f2_5, f3_5, f4_5⟩ := hQ5
  have N5 := Fr.app N0 Nq5
  have ne7 := z_nc A1.lt af2
  have G8 := (A_o0.ext E1)
  have ne9 := z_nc G8.lt af2
  have G10 := (E_o1.ext E1)
  have ne11 := z_nc G10.lt af2
  have G12 := (at0.ext E1)
  have ne13 := z_nc G12.lt af2
  have ak9 := Nat.le_trans K1.1 af2
  have Sw14 := Safe.keep Kq5 (sfS (Safe.exa (EL := consts_1) hZ.alike A1 (by decide) (by decide)) sf0) hC.1 (Safe.new af2)
  have hC := hC.trans (CHr.keep Kq5 (sfS (Safe.exa (EL := consts_1) hZ.alike A1 (by decide) (by decide)) sf0) hC.1)
  have K5 := Keep.trans K1 Kq5 (allS (Or.inr ay1) all0)
  show ac0 p e below P (T5.setTop (mkF m 8 #[.val (.ref o0), .val (.ref o1), .unset, .unset, .unset, .unset, .unset, .unset] [(.ref b1), (.ref o0)]))
  refine ab0 X5 hx (hb hby bv6) rfl rfl ?_
  have G16 := (G10.keep Kq5)
  have G17 := ((ac1.ext E1).keep Kq5 (ninS ne3 nin0))
  have G18 := ((aa1.ext E1).keep Kq5 (ninS ne3 nin0))
  have G19 := (an2 G6 Kq5 (allS (ah6 A1) all0))
  have G20 := (G12.keep Kq5 (ninS ne4 nin0))
  refine ag2 X5 hx hZ (y := (⟨z_s2, "append", z_s4⟩ : MethodName)) (z := (⟨z_s2, "append", z_s4⟩ : MethodName)) hown (z_w hw 44 rfl) (z_w hw 45 rfl) (notFace_of_selects (args := #[]) (mvT hZ (z_w hw 47 rfl))) (z_w hw 47 rfl) (z_w hw 46 rfl) (z_w hw 28 rfl) (z_w hw 48 rfl) f0_5 (bu7 l Z a0 hw [] b1 o1 n b3_1_5 ah0 aa0 T5.heap n0 (Nat.le_trans Z0 K5.1) f0_5 G16 f1_5 f2_5 f3_5 G17 G18 G19 f4_5 G20 ao1 ay8 ne7 ne3.symm ne4.symm ne11.symm ne13.symm hnz hn) 1 rfl hml' (argsL := [(.ref o1)]) (rest := [(.ref o0)]) (lenOf ag1 rfl) (hb hby bw6) (fun r15 T15 L15 X15 hQ15 => ?_)
  obtain ⟨rfl, Nq15, Kq15, f0_15, f1_15, f2_15, f3_15, f4_15⟩ := hQ15
  have N15 := Fr.app N5 Nq15
  have Sw21 := Safe.keep Kq15 (sfS (Safe.exa (EL := consts_1) hZ.alike f0_5 (by decide) (by decide)) (sfS Sw14 sf0)) hC.1 Sw14
  have hC := hC.trans (CHr.keep Kq15 (sfS (Safe.exa (EL := consts_1) hZ.alike f0_5 (by decide) (by decide)) (sfS Sw14 sf0)) hC.1)
  have K15 := Keep.trans K5 Kq15 (allS (Or.inr ay1) (allS (Or.inr ak9) all0))
  show ac0 p e below P (T15.setTop (mkF m 12 #[.val (.ref o0), .val (.ref o1), .unset, .unset, .unset, .unset, .unset, .unset] [(.ref b1), (.ref o0)]))
  have G23 := (Nat.le_trans (Nat.le_trans (Nat.le_trans hk E1.1) Kq5.1) Kq15.1)
  have Sw24 := (Safe.exa (EL := consts_1) hZ.alike f0_15 (by decide) (by decide))
  have Sw25 := Sw21
  obtain ⟨a22, T22, h22, k22, b22, c22, X22, e22, E22, hS, hk22, hZ, hown, EA22, FC22, FV22, VV22, -, -, hC22, Li22, Ne22, st22⟩ := ldcCH X15 hx hZ hown (z_w hw 94 rfl) (bz2 hw) rfl hS G23 hEL (List.mem_of_getElem? (i := 5) rfl) hC.1 (vs := [(.int (32 : Int32)), (.int (109 : Int32)), (.int (117 : Int32)), (.int (115 : Int32)), (.int (116 : Int32)), (.int (32 : Int32)), (.int (110 : Int32)), (.int (111 : Int32)), (.int (116 : Int32)), (.int (32 : Int32)), (.int (98 : Int32)), (.int (101 : Int32)), (.int (32 : Int32)), (.int (110 : Int32)), (.int (117 : Int32)), (.int (108 : Int32)), (.int (108 : Int32))]) (z := (17 : Int32)) ⟨by decide, by rfl⟩ (by decide) (by decide) (g := (mkF m 12 #[.val (.ref o0), .val (.ref o1), .unset, .unset, .unset, .unset, .unset, .unset] [(.ref b1), (.ref o0)])) rfl (hb hby bb4) (n := 68) (by decide) (by decide) (by decide) (by decide)
  have Sw26 := hC22.safe f0_15.lt Sw24
  have Sw27 := hC22.safe f4_15.lt Sw25
  have hC := hC.trans hC22
  have K22 := Keep.ext K15 E22
  have BV22 : ao0 Z h22 b22 17 := ao0.ofV VV22 (by decide) (by rfl)
  refine ae1 (fun _ => st22 _) ?_
  show ac0 p e below P (T22.setTop (mkF m 14 #[.val (.ref o0), .val (.ref o1), .unset, .unset, .unset, .unset, .unset, .unset] [(.ref a22), (.ref b1), (.ref o0)]))
  have G29 := (f0_15.ext E22)
  have G30 := (f1_15.ext E22)
  have G31 := (f2_15.ext E22)
  have G32 := (f3_15.ext E22)
  have G33 := ((an2 G19 Kq15 (allS (ah6 f0_5) (allS (bm7 f4_5) all0))).ext E22)
  have G34 := (f4_15.ext E22)
  refine ag2 X22 hx hZ (y := (⟨z_s2, "append", z_s4⟩ : MethodName)) (z := (⟨z_s2, "append", z_s4⟩ : MethodName)) hown (z_w hw 44 rfl) (z_w hw 45 rfl) (notFace_of_selects (args := #[]) (mvT hZ (z_w hw 47 rfl))) (z_w hw 47 rfl) (z_w hw 46 rfl) (z_w hw 28 rfl) (z_w hw 48 rfl) G29 (bv7 l Z a0 hw [] b1 a22 n b3_1_5 b22 aa0 h22 n0 (Nat.le_trans Z0 K22.1) G29 EA22 G30 G31 G32 FV22 FC22 G33 G34 BV22 ao1 ne7 (Ne22 _ Sw26).1 (Ne22 _ Sw26).2 hnz hn) 1 e22 hml' (argsL := [(.ref a22)]) (rest := [(.ref o0)]) (lenOf ag1 rfl) (hb hby bc4) (fun r28 T28 L28 X28 hQ28 => ?_)
  obtain ⟨b1_6_3_1_28, rfl, Nq28, Kq28, ax0, bf1, f0_28, f1_28, f2_28, f3_28, f4_28⟩ := hQ28
  have N28 := Fr.app N15 Nq28
  have ne35 := z_nc EA22.lt ax0
  have ne36 := z_nc G29.lt ax0
  have ne37 := z_nc BV22.lt ax0
  have ne38 := z_nc G34.lt ax0
  have G39 := (((G8.keep Kq5 (ninS ne2 nin0)).keep Kq15 (ninS ne2 (ninS ne9 nin0))).ext E22)
  have ne40 := z_nc G39.lt ax0
  have G41 := ((G16.keep Kq15).ext E22)
  have ne42 := z_nc G41.lt ax0
  have G43 := ((G20.keep Kq15 (ninS ne4 (ninS ne13 nin0))).ext E22)
  have ne44 := z_nc G43.lt ax0
  have bw2 := Nat.le_trans K22.1 ax0
  have Sw45 := Safe.keep Kq28 (sfS Sw26 sf0) hC.1 Sw27
  have Sw46 := Safe.keep Kq28 (sfS Sw26 sf0) hC.1 Sw26
  have Sw47 := Safe.keep Kq28 (sfS Sw26 sf0) hC.1 (Safe.new ax0)
  have hC := hC.trans (CHr.keep Kq28 (sfS Sw26 sf0) hC.1)
  have K28 := Keep.trans K22 Kq28 (allS (Or.inr ay1) all0)
  show ac0 p e below P (T28.setTop (mkF m 17 #[.val (.ref o0), .val (.ref o1), .unset, .unset, .unset, .unset, .unset, .unset] [(.ref b1), (.ref o0)]))
  have G49 := (an2 G33 Kq28 (allS (ah6 G29) all0))
  refine ag2 X28 hx hZ (y := (⟨z_s2, "toString", "()Ljava/lang/String;"⟩ : MethodName)) (z := (⟨z_s2, "toString", "()Ljava/lang/String;"⟩ : MethodName)) hown (z_w hw 118 rfl) (z_w hw 119 rfl) (notFace_of_selects (args := #[]) (mvT hZ (z_w hw 121 rfl))) (z_w hw 121 rfl) (z_w hw 120 rfl) (z_w hw 28 rfl) (z_w hw 122 rfl) f0_28 (bw7 l Z a0 hw [] b1 n b1_6_3_1_28 aa0 T28.heap n0 (Nat.le_trans Z0 K28.1) f0_28 f1_28 f2_28 f3_28 G49 f4_28 hnz hn) 1 rfl hml' (argsL := []) (rest := [(.ref o0)]) (lenOf ar4 rfl) (hb hby bd4) (fun r48 T48 L48 X48 hQ48 => ?_)
  obtain ⟨b1_48, rfl, Nq48, Kq48, an1, bg8⟩ := hQ48
  have N48 := Fr.app N28 Nq48
  have G50 := (EA22.keep Kq28)
  have ne51 := z_nc G50.lt an1
  have ne52 := z_nc f0_28.lt an1
  have ne53 := z_nc f4_28.lt an1
  have G54 := (BV22.keep Kq28 (ninS (Ne.symm (Ne22 _ Sw26).2) nin0))
  have ne55 := z_nc G54.lt an1
  have G56 := (G34.keep Kq28 (ninS ne7.symm nin0))
  have ne57 := z_nc G56.lt an1
  have G58 := (G39.keep Kq28 (ninS ne2 nin0))
  have ne59 := z_nc G58.lt an1
  have G60 := (G41.keep Kq28)
  have ne61 := z_nc G60.lt an1
  have G62 := (G43.keep Kq28 (ninS ne4 nin0))
  have ne63 := z_nc G62.lt an1
  have cw3 := Nat.le_trans K28.1 an1
  have Sw64 := Safe.keep Kq48 sf0 hC.1 Sw45
  have Sw65 := Safe.keep Kq48 sf0 hC.1 Sw46
  have Sw66 := Safe.keep Kq48 sf0 hC.1 Sw47
  have hC := hC.trans (CHr.keep Kq48 sf0 hC.1)
  have K48 := Keep.trans K28 Kq48 all0
  show ac0 p e below P (T48.setTop (mkF m 20 #[.val (.ref o0), .val (.ref o1), .unset, .unset, .unset, .unset, .unset, .unset] [(.ref b1_48), (.ref o0)]))
  refine af1 X48 hx hZ (y := (⟨"java/util/Objects", "requireNonNull", co1⟩ : MethodName)) hown (z_w hw 159 rfl) (z_w hw 160 rfl) (z_w hw 161 rfl) (z_w hw 162 rfl) (bt7 l Z a0 hw [] o0 b1_48  T48.heap n0 (Nat.le_trans Z0 K48.1) ) 0 rfl hml' (argsL := [(.ref o0), (.ref b1_48)]) (rest := []) (lenOf aw1 rfl) (hb hby be4) (fun r67 T67 L67 X67 hQ67 => ?_)
  obtain ⟨rfl, Nq67, eq67⟩ := hQ67
  have N67 := Fr.app N48 Nq67
  show ac0 p e below P (T67.setTop (mkF m 23 #[.val (.ref o0), .val (.ref o1), .unset, .unset, .unset, .unset, .unset, .unset] [(.ref o0)]))
  refine bs5 X67 hx (hb hby bf4) rfl ?_
  refine ab0 X67 hx (hb hby bg4) rfl rfl ?_
  have G69 := (G58.keep Kq48 nin0)
  refine ap9 X67 hx hZ hown (z_w hw 163 rfl) (z_w hw 164 rfl) (z_w hw 168 rfl) (z_w hw 166 rfl) (z_w hw 167 rfl) (z_w hw 169 rfl) eq67 G69 (g := (mkF m 25 #[.val (.ref o0), .val (.ref o1), .unset, .unset, .unset, .unset, .unset, .unset] [(.ref o0)])) rfl (by rw [hml']; rfl) rfl (hb hby bh4) (by decide) 0 4 (by show 2 * 0 + _ ≤ _; exact Nat.le_of_eq rfl) (by decide) (Nat.le_refl _) (by decide) (by decide) (fun T68 h68 X68 e68 E68 B68 => ?_)
  obtain ⟨b68, g68⟩ : ∃ z, z = T48.heap.size := ⟨_, rfl⟩
  rw [← g68] at B68 ⊢
  have Sw70 := Safe.ext E68 hC.1 Sw64
  have Sw71 := Safe.ext E68 hC.1 Sw65
  have Sw72 := Safe.ext E68 hC.1 Sw66
  have hC := hC.trans (CHr.ext E68 hC.1)
  have G74 := (G50.keep Kq48)
  have ne73 := z_nb G74.lt g68
  have G76 := (f0_28.keep Kq48)
  have ne75 := z_nb G76.lt g68
  have G78 := (f4_28.keep Kq48 nin0)
  have ne77 := z_nb G78.lt g68
  have G80 := (G54.keep Kq48 nin0)
  have ne79 := z_nb G80.lt g68
  have G82 := (G56.keep Kq48 nin0)
  have ne81 := z_nb G82.lt g68
  have ne83 := z_nb G69.lt g68
  have G85 := (G60.keep Kq48)
  have ne84 := z_nb G85.lt g68
  have G87 := (G62.keep Kq48 nin0)
  have ne86 := z_nb G87.lt g68
  have ag3 : n0 ≤ b68 := Nat.le_trans (Nat.le_trans Z0 K48.1) (Nat.le_of_eq g68.symm)
  have an4 : h0.size ≤ b68 := Nat.le_trans K48.1 (Nat.le_of_eq g68.symm)
  have K68 := Keep.ext K48 E68
  have A68 : ag0 Z h68 b68 [c0, c1, c2, c3] := B68
  show ac0 p e below P (T68.setTop (mkF m 28 #[.val (.ref o0), .val (.ref o1), .unset, .unset, .unset, .unset, .unset, .unset] [(.ref b68)]))
  obtain ⟨T88, X88, e88, st88⟩ := castY X68 hx hZ hown (z_w hw 170 rfl) e68 (ag0.ins A68) (g := (mkF m 28 #[.val (.ref o0), .val (.ref o1), .unset, .unset, .unset, .unset, .unset, .unset] [(.ref b68)])) rfl rfl (hb hby bi4)
  refine ae1 (fun _ => st88 _) ?_
  show ac0 p e below P (T88.setTop (mkF m 31 #[.val (.ref o0), .val (.ref o1), .unset, .unset, .unset, .unset, .unset, .unset] [(.ref b68)]))
  refine av2 X88 hx (hb hby bj4) rfl (l' := #[.val (.ref o0), .val (.ref o1), .val (.ref b68), .unset, .unset, .unset, .unset, .unset]) rfl ?_
  refine ab0 X88 hx (hb hby bk4) rfl rfl ?_
  refine af1 X88 hx hZ (y := (⟨z_s5, "sort", "([I)V"⟩ : MethodName)) hown (z_w hw 172 rfl) (z_w hw 173 rfl) (z_w hw 112 rfl) (z_w hw 174 rfl) (eo1 l Z a0 hw [] b68 c0 c1 c2 c3 h68 n0 (Nat.le_trans Z0 K68.1) A68 ag3 hn0 hn1 hn2 hn3) 0 e88 hml' (argsL := [(.ref b68)]) (rest := []) (lenOf ao9 rfl) (hb hby bl4) (fun r89 T89 L89 X89 hQ89 => ?_)
  obtain ⟨ys89, rfl, Nq89, Kq89, As89, hl89, ha89⟩ := hQ89
  have N89 := Fr.app N67 Nq89
  obtain ⟨y0_89, y1_89, y2_89, y3_89, rfl⟩ := by7 hl89
  have Sw90 := Safe.keep Kq89 (sfS (A68.safe (EL := consts_1) hZ.alike) sf0) hC.1 Sw70
  have Sw91 := Safe.keep Kq89 (sfS (A68.safe (EL := consts_1) hZ.alike) sf0) hC.1 Sw71
  have Sw92 := Safe.keep Kq89 (sfS (A68.safe (EL := consts_1) hZ.alike) sf0) hC.1 Sw72
  have hC := hC.trans (CHr.keep Kq89 (sfS (A68.safe (EL := consts_1) hZ.alike) sf0) hC.1)
  have K89 := Keep.trans K68 Kq89 (allS (Or.inr an4) all0)
  have ba5 : ¬ y0_89 < (0 : Int32) := ha89 _ (by simp)
  have ce6 : ¬ y1_89 < (0 : Int32) := ha89 _ (by simp)
  have er1 : ¬ y2_89 < (0 : Int32) := ha89 _ (by simp)
  have ez3 : ¬ y3_89 < (0 : Int32) := ha89 _ (by simp)
  show ac0 p e below P (T89.setTop (mkF m 36 #[.val (.ref o0), .val (.ref o1), .val (.ref b68), .unset, .unset, .unset, .unset, .unset] []))
  refine ab0 X89 hx (hb hby bm4) rfl rfl ?_
  refine ah1 X89 hx hZ rfl As89 (z := (4 : Int32)) rfl (hb hby bn4) ?_
  refine aa3 X89 hx (hb hby bo4) ((if0 _ _).trans (tlt (by decide : (0 : Int32) < (4 : Int32))).2.2.2) ?_
  refine ab0 X89 hx (hb hby be7) rfl rfl ?_
  refine am0 X89 hx (hb hby bf7) (z := (0 : Int32)) rfl ?_
  refine al1 X89 hx hZ rfl As89 (j := (0 : Int32)) (v := y0_89) (i := 0) (by decide) rfl (hb hby bg7) ?_
  have hd93 : ¬ (y0_89 < (0 : Int32)) := by exact ba5
  refine ak4 X89 hx (pc' := 80) (hb hby bh7) ((if0 _ _).trans (flt hd93).2.1) ?_
  refine am0 X89 hx (hb hby bp4) (z := (0 : Int32)) rfl ?_
  refine aj2 X89 hx (hb hby bq4) (l' := #[.val (.ref o0), .val (.ref o1), .val (.ref b68), .val (.int (0 : Int32)), .unset, .unset, .unset, .unset]) rfl ?_
  refine ab0 X89 hx (hb hby br4) rfl rfl ?_
  refine ak7 X89 hx (hb hby bs4) rfl (l' := #[.val (.ref o0), .val (.ref o1), .val (.ref b68), .val (.int (0 : Int32)), .val (.ref b68), .unset, .unset, .unset]) rfl ?_
  refine az2 X89 hx (hb hby bt4) rfl rfl ?_
  refine ah1 X89 hx hZ rfl As89 (z := (4 : Int32)) rfl (hb hby bu4) ?_
  refine ai1 X89 hx (hb hby bv4) (l' := #[.val (.ref o0), .val (.ref o1), .val (.ref b68), .val (.int (0 : Int32)), .val (.ref b68), .val (.int (4 : Int32)), .unset, .unset]) rfl ?_
  refine am0 X89 hx (hb hby bw4) (z := (0 : Int32)) rfl ?_
  refine ai1 X89 hx (hb hby bx4) (l' := #[.val (.ref o0), .val (.ref o1), .val (.ref b68), .val (.int (0 : Int32)), .val (.ref b68), .val (.int (4 : Int32)), .val (.int (0 : Int32)), .unset]) rfl ?_
  refine ak0 X89 hx (hb hby ab2) rfl ?_
  refine ak0 X89 hx (hb hby ac2) rfl ?_
  refine av0 X89 hx (hb hby ad2) (tlt (by decide : (0 : Int32) < (4 : Int32))).2.1 ?_
  refine az2 X89 hx (hb hby at3) rfl rfl ?_
  refine ak0 X89 hx (hb hby au3) rfl ?_
  refine al1 X89 hx hZ rfl As89 (j := (0 : Int32)) (v := y0_89) (i := 0) (by decide) rfl (hb hby av3) ?_
  refine ai1 X89 hx (hb hby aw3) (l' := #[.val (.ref o0), .val (.ref o1), .val (.ref b68), .val (.int (0 : Int32)), .val (.ref b68), .val (.int (4 : Int32)), .val (.int (0 : Int32)), .val (.int y0_89)]) rfl ?_
  refine ae0 X89 hx (hb hby ax3) rfl ?_
  refine ak4 X89 hx (pc' := 121) (hb hby ay3) ((if0 _ _).trans (teq (by decide : (0 : Int32) = (0 : Int32))).1) ?_
  refine ab0 X89 hx (hb hby az3) rfl rfl ?_
  refine ae0 X89 hx (hb hby aa4) rfl ?_
  refine aq1 X89 hx (hb hby ab4) rfl (l' := #[.val (.ref o0), .val (.ref o1), .val (.ref b68), .val (.int (1 : Int32)), .val (.ref b68), .val (.int (4 : Int32)), .val (.int (0 : Int32)), .val (.int y0_89)]) rfl ?_
  refine ak0 X89 hx (hb hby ac4) rfl ?_
  refine ae2 X89 hx hZ rfl As89 (j := (0 : Int32)) (v := y0_89) (i := 0) (by decide) (by show (0 : Nat) < 4; decide) (hb hby ad4) (fun T94 h94 X94 e94 W94 B94 => ?_)
  have A94 : ag0 Z h94 b68 [y0_89, y1_89, y2_89, y3_89] := B94
  have Sf94 := (As89.safe (EL := consts_1) hZ.alike)
  have Sw95 := Safe.wr W94 Sf94 hC.1 Sw90
  have Sw96 := Safe.wr W94 Sf94 hC.1 Sw91
  have Sw97 := Safe.wr W94 Sf94 hC.1 Sw92
  have hC := hC.trans (CHr.wr W94 Sf94 hC.1)
  have N94 := Fr.snoc X94 N89 ag3
  have K94 := Keep.wr K89 W94 (Or.inr an4)
  refine aq1 X94 hx (hb hby ak2) rfl (l' := #[.val (.ref o0), .val (.ref o1), .val (.ref b68), .val (.int (1 : Int32)), .val (.ref b68), .val (.int (4 : Int32)), .val (.int (1 : Int32)), .val (.int y0_89)]) rfl ?_
  refine am1 X94 hx (pc' := 93) (hb hby al2) ?_
  refine ak0 X94 hx (hb hby ab2) rfl ?_
  refine ak0 X94 hx (hb hby ac2) rfl ?_
  refine av0 X94 hx (hb hby ad2) (tlt (by decide : (1 : Int32) < (4 : Int32))).2.1 ?_
  refine az2 X94 hx (hb hby at3) rfl rfl ?_
  refine ak0 X94 hx (hb hby au3) rfl ?_
  refine al1 X94 hx hZ e94 A94 (j := (1 : Int32)) (v := y1_89) (i := 1) (by decide) rfl (hb hby av3) ?_
  refine ai1 X94 hx (hb hby aw3) (l' := #[.val (.ref o0), .val (.ref o1), .val (.ref b68), .val (.int (1 : Int32)), .val (.ref b68), .val (.int (4 : Int32)), .val (.int (1 : Int32)), .val (.int y1_89)]) rfl ?_
  refine ae0 X94 hx (hb hby ax3) rfl ?_
  refine aa3 X94 hx (hb hby ay3) ((if0 _ _).trans (feq (by decide : ¬ ((1 : Int32) = (0 : Int32)))).1) ?_
  refine ab0 X94 hx (hb hby ah5) rfl rfl ?_
  refine ae0 X94 hx (hb hby ai5) rfl ?_
  refine am0 X94 hx (hb hby aj5) (z := (1 : Int32)) rfl ?_
  refine ar2 X94 hx (hb hby ak5) (z := (0 : Int32)) rfl ?_
  refine al1 X94 hx hZ e94 A94 (j := (0 : Int32)) (v := y0_89) (i := 0) (by decide) rfl (hb hby al5) ?_
  refine ak0 X94 hx (hb hby am5) rfl ?_
  by_cases hc98 : y0_89 = y1_89
  · refine au0 X94 hx (pc' := 129) (hb hby aw2) (teq hc98).1 ?_
    refine aq1 X94 hx (hb hby ak2) rfl (l' := #[.val (.ref o0), .val (.ref o1), .val (.ref b68), .val (.int (1 : Int32)), .val (.ref b68), .val (.int (4 : Int32)), .val (.int (2 : Int32)), .val (.int y1_89)]) rfl ?_
    refine am1 X94 hx (pc' := 93) (hb hby al2) ?_
    refine ak0 X94 hx (hb hby ab2) rfl ?_
    refine ak0 X94 hx (hb hby ac2) rfl ?_
    refine av0 X94 hx (hb hby ad2) (tlt (by decide : (2 : Int32) < (4 : Int32))).2.1 ?_
    refine az2 X94 hx (hb hby at3) rfl rfl ?_
    refine ak0 X94 hx (hb hby au3) rfl ?_
    refine al1 X94 hx hZ e94 A94 (j := (2 : Int32)) (v := y2_89) (i := 2) (by decide) rfl (hb hby av3) ?_
    refine ai1 X94 hx (hb hby aw3) (l' := #[.val (.ref o0), .val (.ref o1), .val (.ref b68), .val (.int (1 : Int32)), .val (.ref b68), .val (.int (4 : Int32)), .val (.int (2 : Int32)), .val (.int y2_89)]) rfl ?_
    refine ae0 X94 hx (hb hby ax3) rfl ?_
    refine aa3 X94 hx (hb hby ay3) ((if0 _ _).trans (feq (by decide : ¬ ((1 : Int32) = (0 : Int32)))).1) ?_
    refine ab0 X94 hx (hb hby ah5) rfl rfl ?_
    refine ae0 X94 hx (hb hby ai5) rfl ?_
    refine am0 X94 hx (hb hby aj5) (z := (1 : Int32)) rfl ?_
    refine ar2 X94 hx (hb hby ak5) (z := (0 : Int32)) rfl ?_
    refine al1 X94 hx hZ e94 A94 (j := (0 : Int32)) (v := y0_89) (i := 0) (by decide) rfl (hb hby al5) ?_
    refine ak0 X94 hx (hb hby am5) rfl ?_
    by_cases hc99 : y0_89 = y2_89
    · refine au0 X94 hx (pc' := 129) (hb hby aw2) (teq hc99).1 ?_
      refine aq1 X94 hx (hb hby ak2) rfl (l' := #[.val (.ref o0), .val (.ref o1), .val (.ref b68), .val (.int (1 : Int32)), .val (.ref b68), .val (.int (4 : Int32)), .val (.int (3 : Int32)), .val (.int y2_89)]) rfl ?_
      refine am1 X94 hx (pc' := 93) (hb hby al2) ?_
      refine ak0 X94 hx (hb hby ab2) rfl ?_
      refine ak0 X94 hx (hb hby ac2) rfl ?_
      refine av0 X94 hx (hb hby ad2) (tlt (by decide : (3 : Int32) < (4 : Int32))).2.1 ?_
      refine az2 X94 hx (hb hby at3) rfl rfl ?_
      refine ak0 X94 hx (hb hby au3) rfl ?_
      refine al1 X94 hx hZ e94 A94 (j := (3 : Int32)) (v := y3_89) (i := 3) (by decide) rfl (hb hby av3) ?_
      refine ai1 X94 hx (hb hby aw3) (l' := #[.val (.ref o0), .val (.ref o1), .val (.ref b68), .val (.int (1 : Int32)), .val (.ref b68), .val (.int (4 : Int32)), .val (.int (3 : Int32)), .val (.int y3_89)]) rfl ?_
      refine ae0 X94 hx (hb hby ax3) rfl ?_
      refine aa3 X94 hx (hb hby ay3) ((if0 _ _).trans (feq (by decide : ¬ ((1 : Int32) = (0 : Int32)))).1) ?_
      refine ab0 X94 hx (hb hby ah5) rfl rfl ?_
      refine ae0 X94 hx (hb hby ai5) rfl ?_
      refine am0 X94 hx (hb hby aj5) (z := (1 : Int32)) rfl ?_
      refine ar2 X94 hx (hb hby ak5) (z := (0 : Int32)) rfl ?_
      refine al1 X94 hx hZ e94 A94 (j := (0 : Int32)) (v := y0_89) (i := 0) (by decide) rfl (hb hby al5) ?_
      refine ak0 X94 hx (hb hby am5) rfl ?_
      by_cases hc100 : y0_89 = y3_89
      · refine au0 X94 hx (pc' := 129) (hb hby aw2) (teq hc100).1 ?_
        refine aq1 X94 hx (hb hby ak2) rfl (l' := #[.val (.ref o0), .val (.ref o1), .val (.ref b68), .val (.int (1 : Int32)), .val (.ref b68), .val (.int (4 : Int32)), .val (.int (4 : Int32)), .val (.int y3_89)]) rfl ?_
        refine am1 X94 hx (pc' := 93) (hb hby al2) ?_
        refine ak0 X94 hx (hb hby ab2) rfl ?_
        refine ak0 X94 hx (hb hby ac2) rfl ?_
        refine au0 X94 hx (pc' := 135) (hb hby ad2) (flt (by decide : ¬ ((4 : Int32) < (4 : Int32)))).2.1 ?_
        refine ae0 X94 hx (hb hby ah3) rfl ?_
        refine ab0 X94 hx (hb hby ai3) rfl rfl ?_
        refine ah1 X94 hx hZ e94 A94 (z := (4 : Int32)) rfl (hb hby aj3) ?_
        refine au0 X94 hx (pc' := 145) (hb hby ak3) (feq (by decide : ¬ ((1 : Int32) = (4 : Int32)))).2 ?_
        refine ab0 X94 hx (hb hby an5) rfl rfl ?_
        refine ae0 X94 hx (hb hby ao5) rfl ?_
        refine af1 X94 hx hZ (y := (⟨z_s5, "copyOf", "([II)[I"⟩ : MethodName)) hown (z_w hw 199 rfl) (z_w hw 200 rfl) (z_w hw 112 rfl) (z_w hw 201 rfl) (dv3 l Z a0 hw [] b68 y0_89 y1_89 y2_89 y3_89 h94 n0 (Nat.le_trans Z0 K94.1) A94) 0 e94 hml' (argsL := [(.ref b68), (.int (1 : Int32))]) (rest := []) (lenOf ah2 rfl) (hb hby ap5) (fun r101 T101 L101 X101 hQ101 => ?_)
        obtain ⟨br_101, rfl, Nq101, Kq101, az7, de4, f0_101⟩ := hQ101
        have N101 := Fr.app N94 Nq101
        have G102 := (((G74.ext E68).keep Kq89).wr W94)
        have ne103 := z_nc G102.lt az7
        have G104 := (((G76.ext E68).keep Kq89).wr W94)
        have ne105 := z_nc G104.lt az7
        have G106 := (((G78.ext E68).keep Kq89 (ninS ne77 nin0)).other W94 ne77)
        have ne107 := z_nc G106.lt az7
        have G108 := (((G80.ext E68).keep Kq89 (ninS ne79 nin0)).other W94 ne79)
        have ne109 := z_nc G108.lt az7
        have G110 := (((G82.ext E68).keep Kq89 (ninS ne81 nin0)).other W94 ne81)
        have ne111 := z_nc G110.lt az7
        have ne112 := z_nc A94.lt az7
        have G113 := (((G69.ext E68).keep Kq89 (ninS ne83 nin0)).other W94 ne83)
        have ne114 := z_nc G113.lt az7
        have G115 := (((G85.ext E68).keep Kq89).wr W94)
        have ne116 := z_nc G115.lt az7
        have G117 := (((G87.ext E68).keep Kq89 (ninS ne86 nin0)).other W94 ne86)
        have ne118 := z_nc G117.lt az7
        have dq9 := Nat.le_trans K94.1 az7
        have Sw119 := Safe.keep Kq101 sf0 hC.1 Sw95
        have Sw120 := Safe.keep Kq101 sf0 hC.1 Sw96
        have Sw121 := Safe.keep Kq101 sf0 hC.1 Sw97
        have hC := hC.trans (CHr.keep Kq101 sf0 hC.1)
        have K101 := Keep.trans K94 Kq101 all0
        show ac0 p e below P (T101.setTop (mkF m 150 #[.val (.ref o0), .val (.ref o1), .val (.ref b68), .val (.int (1 : Int32)), .val (.ref b68), .val (.int (4 : Int32)), .val (.int (4 : Int32)), .val (.int y3_89)] [(.ref br_101)]))
        have G122 := (Nat.le_trans (Nat.le_trans (Nat.le_trans (Nat.le_trans (Nat.le_trans (Nat.le_trans hk22 Kq28.1) Kq48.1) E68.1) Kq89.1) (Keep.of_wr W94).1) Kq101.1)
        have hfin : (fun (v : Option Value) (h : Heap) (L : List Loc) => ∃ (br : Addr) (xr : List Int32), v = some (.ref br) ∧ Fr n0 L ∧ Keep h0 h [] ∧ h0.size ≤ br ∧ n0 ≤ br ∧ ag0 Z h br xr ∧ ((xr.length = 0 ↔ [c0, c1, c2, c3].length = 0) ∧ xr.length ≤ 4)) (some (.ref br_101)) T101.heap _ := ⟨br_101, [y0_89], rfl, N101, K101, dq9, de4, f0_101, ⟨by simp, by simp⟩⟩
        refine ab5 X101 hS G122 rfl hZ hEL hC hx hlk hP rfl rfl hrt (hb hby al3) (by decide) (by decide) ?_
        exact hfin
      · refine av0 X94 hx (hb hby aw2) (feq hc100).1 ?_
        refine ab0 X94 hx (hb hby az3) rfl rfl ?_
        refine ae0 X94 hx (hb hby aa4) rfl ?_
        refine aq1 X94 hx (hb hby ab4) rfl (l' := #[.val (.ref o0), .val (.ref o1), .val (.ref b68), .val (.int (2 : Int32)), .val (.ref b68), .val (.int (4 : Int32)), .val (.int (3 : Int32)), .val (.int y3_89)]) rfl ?_
        refine ak0 X94 hx (hb hby ac4) rfl ?_
        refine ae2 X94 hx hZ e94 A94 (j := (1 : Int32)) (v := y3_89) (i := 1) (by decide) (by show (1 : Nat) < 4; decide) (hb hby ad4) (fun T124 h124 X124 e124 W124 B124 => ?_)
        have A124 : ag0 Z h124 b68 [y0_89, y3_89, y2_89, y3_89] := B124
        have Sf124 := (A94.safe (EL := consts_1) hZ.alike)
        have Sw125 := Safe.wr W124 Sf124 hC.1 Sw95
        have Sw126 := Safe.wr W124 Sf124 hC.1 Sw96
        have Sw127 := Safe.wr W124 Sf124 hC.1 Sw97
        have hC := hC.trans (CHr.wr W124 Sf124 hC.1)
        have N124 := Fr.snoc X124 N94 ag3
        have K124 := Keep.wr K94 W124 (Or.inr an4)
        refine aq1 X124 hx (hb hby ak2) rfl (l' := #[.val (.ref o0), .val (.ref o1), .val (.ref b68), .val (.int (2 : Int32)), .val (.ref b68), .val (.int (4 : Int32)), .val (.int (4 : Int32)), .val (.int y3_89)]) rfl ?_
        refine am1 X124 hx (pc' := 93) (hb hby al2) ?_
        refine ak0 X124 hx (hb hby ab2) rfl ?_
        refine ak0 X124 hx (hb hby ac2) rfl ?_
        refine au0 X124 hx (pc' := 135) (hb hby ad2) (flt (by decide : ¬ ((4 : Int32) < (4 : Int32)))).2.1 ?_
        refine ae0 X124 hx (hb hby ah3) rfl ?_
        refine ab0 X124 hx (hb hby ai3) rfl rfl ?_
        refine ah1 X124 hx hZ e124 A124 (z := (4 : Int32)) rfl (hb hby aj3) ?_
        refine au0 X124 hx (pc' := 145) (hb hby ak3) (feq (by decide : ¬ ((2 : Int32) = (4 : Int32)))).2 ?_
        refine ab0 X124 hx (hb hby an5) rfl rfl ?_
        refine ae0 X124 hx (hb hby ao5) rfl ?_
        refine af1 X124 hx hZ (y := (⟨z_s5, "copyOf", "([II)[I"⟩ : MethodName)) hown (z_w hw 199 rfl) (z_w hw 200 rfl) (z_w hw 112 rfl) (z_w hw 201 rfl) (cu3 l Z a0 hw [] b68 y0_89 y3_89 y2_89 y3_89 h124 n0 (Nat.le_trans Z0 K124.1) A124) 0 e124 hml' (argsL := [(.ref b68), (.int (2 : Int32))]) (rest := []) (lenOf ah2 rfl) (hb hby ap5) (fun r128 T128 L128 X128 hQ128 => ?_)
        obtain ⟨br_128, rfl, Nq128, Kq128, a8, df4, f0_128⟩ := hQ128
        have N128 := Fr.app N124 Nq128
        have G129 := ((((G74.ext E68).keep Kq89).wr W94).wr W124)
        have ne130 := z_nc G129.lt a8
        have G131 := ((((G76.ext E68).keep Kq89).wr W94).wr W124)
        have ne132 := z_nc G131.lt a8
        have G133 := ((((G78.ext E68).keep Kq89 (ninS ne77 nin0)).other W94 ne77).other W124 ne77)
        have ne134 := z_nc G133.lt a8
        have G135 := ((((G80.ext E68).keep Kq89 (ninS ne79 nin0)).other W94 ne79).other W124 ne79)
        have ne136 := z_nc G135.lt a8
        have G137 := ((((G82.ext E68).keep Kq89 (ninS ne81 nin0)).other W94 ne81).other W124 ne81)
        have ne138 := z_nc G137.lt a8
        have ne139 := z_nc A124.lt a8
        have G140 := ((((G69.ext E68).keep Kq89 (ninS ne83 nin0)).other W94 ne83).other W124 ne83)
        have ne141 := z_nc G140.lt a8
        have G142 := ((((G85.ext E68).keep Kq89).wr W94).wr W124)
        have ne143 := z_nc G142.lt a8
        have G144 := ((((G87.ext E68).keep Kq89 (ninS ne86 nin0)).other W94 ne86).other W124 ne86)
        have ne145 := z_nc G144.lt a8
        have dr9 := Nat.le_trans K124.1 a8
        have Sw146 := Safe.keep Kq128 sf0 hC.1 Sw125
        have Sw147 := Safe.keep Kq128 sf0 hC.1 Sw126
        have Sw148 := Safe.keep Kq128 sf0 hC.1 Sw127
        have hC := hC.trans (CHr.keep Kq128 sf0 hC.1)
        have K128 := Keep.trans K124 Kq128 all0
        show ac0 p e below P (T128.setTop (mkF m 150 #[.val (.ref o0), .val (.ref o1), .val (.ref b68), .val (.int (2 : Int32)), .val (.ref b68), .val (.int (4 : Int32)), .val (.int (4 : Int32)), .val (.int y3_89)] [(.ref br_128)]))
        have G149 := (Nat.le_trans (Nat.le_trans (Nat.le_trans (Nat.le_trans (Nat.le_trans (Nat.le_trans (Nat.le_trans hk22 Kq28.1) Kq48.1) E68.1) Kq89.1) (Keep.of_wr W94).1) (Keep.of_wr W124).1) Kq128.1)
        have hfin : (fun (v : Option Value) (h : Heap) (L : List Loc) => ∃ (br : Addr) (xr : List Int32), v = some (.ref br) ∧ Fr n0 L ∧ Keep h0 h [] ∧ h0.size ≤ br ∧ n0 ≤ br ∧ ag0 Z h br xr ∧ ((xr.length = 0 ↔ [c0, c1, c2, c3].length = 0) ∧ xr.length ≤ 4)) (some (.ref br_128)) T128.heap _ := ⟨br_128, [y0_89, y3_89], rfl, N128, K128, dr9, df4, f0_128, ⟨by simp, by simp⟩⟩
        refine ab5 X128 hS G149 rfl hZ hEL hC hx hlk hP rfl rfl hrt (hb hby al3) (by decide) (by decide) ?_
        exact hfin
    · refine av0 X94 hx (hb hby aw2) (feq hc99).1 ?_
      refine ab0 X94 hx (hb hby az3) rfl rfl ?_
      refine ae0 X94 hx (hb hby aa4) rfl ?_
      refine aq1 X94 hx (hb hby ab4) rfl (l' := #[.val (.ref o0), .val (.ref o1), .val (.ref b68), .val (.int (2 : Int32)), .val (.ref b68), .val (.int (4 : Int32)), .val (.int (2 : Int32)), .val (.int y2_89)]) rfl ?_
      refine ak0 X94 hx (hb hby ac4) rfl ?_
      refine ae2 X94 hx hZ e94 A94 (j := (1 : Int32)) (v := y2_89) (i := 1) (by decide) (by show (1 : Nat) < 4; decide) (hb hby ad4) (fun T151 h151 X151 e151 W151 B151 => ?_)
      have A151 : ag0 Z h151 b68 [y0_89, y2_89, y2_89, y3_89] := B151
      have Sf151 := (A94.safe (EL := consts_1) hZ.alike)
      have Sw152 := Safe.wr W151 Sf151 hC.1 Sw95
      have Sw153 := Safe.wr W151 Sf151 hC.1 Sw96
      have Sw154 := Safe.wr W151 Sf151 hC.1 Sw97
      have hC := hC.trans (CHr.wr W151 Sf151 hC.1)
      have N151 := Fr.snoc X151 N94 ag3
      have K151 := Keep.wr K94 W151 (Or.inr an4)
      refine aq1 X151 hx (hb hby ak2) rfl (l' := #[.val (.ref o0), .val (.ref o1), .val (.ref b68), .val (.int (2 : Int32)), .val (.ref b68), .val (.int (4 : Int32)), .val (.int (3 : Int32)), .val (.int y2_89)]) rfl ?_
      refine am1 X151 hx (pc' := 93) (hb hby al2) ?_
      refine ak0 X151 hx (hb hby ab2) rfl ?_
      refine ak0 X151 hx (hb hby ac2) rfl ?_
      refine av0 X151 hx (hb hby ad2) (tlt (by decide : (3 : Int32) < (4 : Int32))).2.1 ?_
      refine az2 X151 hx (hb hby at3) rfl rfl ?_
      refine ak0 X151 hx (hb hby au3) rfl ?_
      refine al1 X151 hx hZ e151 A151 (j := (3 : Int32)) (v := y3_89) (i := 3) (by decide) rfl (hb hby av3) ?_
      refine ai1 X151 hx (hb hby aw3) (l' := #[.val (.ref o0), .val (.ref o1), .val (.ref b68), .val (.int (2 : Int32)), .val (.ref b68), .val (.int (4 : Int32)), .val (.int (3 : Int32)), .val (.int y3_89)]) rfl ?_
      refine ae0 X151 hx (hb hby ax3) rfl ?_
      refine aa3 X151 hx (hb hby ay3) ((if0 _ _).trans (feq (by decide : ¬ ((2 : Int32) = (0 : Int32)))).1) ?_
      refine ab0 X151 hx (hb hby ah5) rfl rfl ?_
      refine ae0 X151 hx (hb hby ai5) rfl ?_
      refine am0 X151 hx (hb hby aj5) (z := (1 : Int32)) rfl ?_
      refine ar2 X151 hx (hb hby ak5) (z := (1 : Int32)) rfl ?_
      refine al1 X151 hx hZ e151 A151 (j := (1 : Int32)) (v := y2_89) (i := 1) (by decide) rfl (hb hby al5) ?_
      refine ak0 X151 hx (hb hby am5) rfl ?_
      by_cases hc155 : y2_89 = y3_89
      · refine au0 X151 hx (pc' := 129) (hb hby aw2) (teq hc155).1 ?_
        refine aq1 X151 hx (hb hby ak2) rfl (l' := #[.val (.ref o0), .val (.ref o1), .val (.ref b68), .val (.int (2 : Int32)), .val (.ref b68), .val (.int (4 : Int32)), .val (.int (4 : Int32)), .val (.int y3_89)]) rfl ?_
        refine am1 X151 hx (pc' := 93) (hb hby al2) ?_
        refine ak0 X151 hx (hb hby ab2) rfl ?_
        refine ak0 X151 hx (hb hby ac2) rfl ?_
        refine au0 X151 hx (pc' := 135) (hb hby ad2) (flt (by decide : ¬ ((4 : Int32) < (4 : Int32)))).2.1 ?_
        refine ae0 X151 hx (hb hby ah3) rfl ?_
        refine ab0 X151 hx (hb hby ai3) rfl rfl ?_
        refine ah1 X151 hx hZ e151 A151 (z := (4 : Int32)) rfl (hb hby aj3) ?_
        refine au0 X151 hx (pc' := 145) (hb hby ak3) (feq (by decide : ¬ ((2 : Int32) = (4 : Int32)))).2 ?_
        refine ab0 X151 hx (hb hby an5) rfl rfl ?_
        refine ae0 X151 hx (hb hby ao5) rfl ?_
        refine af1 X151 hx hZ (y := (⟨z_s5, "copyOf", "([II)[I"⟩ : MethodName)) hown (z_w hw 199 rfl) (z_w hw 200 rfl) (z_w hw 112 rfl) (z_w hw 201 rfl) (cu3 l Z a0 hw [] b68 y0_89 y2_89 y2_89 y3_89 h151 n0 (Nat.le_trans Z0 K151.1) A151) 0 e151 hml' (argsL := [(.ref b68), (.int (2 : Int32))]) (rest := []) (lenOf ah2 rfl) (hb hby ap5) (fun r156 T156 L156 X156 hQ156 => ?_)
        obtain ⟨br_156, rfl, Nq156, Kq156, aa8, dg4, f0_156⟩ := hQ156
        have N156 := Fr.app N151 Nq156
        have G157 := ((((G74.ext E68).keep Kq89).wr W94).wr W151)
        have ne158 := z_nc G157.lt aa8
        have G159 := ((((G76.ext E68).keep Kq89).wr W94).wr W151)
        have ne160 := z_nc G159.lt aa8
        have G161 := ((((G78.ext E68).keep Kq89 (ninS ne77 nin0)).other W94 ne77).other W151 ne77)
        have ne162 := z_nc G161.lt aa8
        have G163 := ((((G80.ext E68).keep Kq89 (ninS ne79 nin0)).other W94 ne79).other W151 ne79)
        have ne164 := z_nc G163.lt aa8
        have G165 := ((((G82.ext E68).keep Kq89 (ninS ne81 nin0)).other W94 ne81).other W151 ne81)
        have ne166 := z_nc G165.lt aa8
        have ne167 := z_nc A151.lt aa8
        have G168 := ((((G69.ext E68).keep Kq89 (ninS ne83 nin0)).other W94 ne83).other W151 ne83)
        have ne169 := z_nc G168.lt aa8
        have G170 := ((((G85.ext E68).keep Kq89).wr W94).wr W151)
        have ne171 := z_nc G170.lt aa8
        have G172 := ((((G87.ext E68).keep Kq89 (ninS ne86 nin0)).other W94 ne86).other W151 ne86)
        have ne173 := z_nc G172.lt aa8
        have ds9 := Nat.le_trans K151.1 aa8
        have Sw174 := Safe.keep Kq156 sf0 hC.1 Sw152
        have Sw175 := Safe.keep Kq156 sf0 hC.1 Sw153
        have Sw176 := Safe.keep Kq156 sf0 hC.1 Sw154
        have hC := hC.trans (CHr.keep Kq156 sf0 hC.1)
        have K156 := Keep.trans K151 Kq156 all0
        show ac0 p e below P (T156.setTop (mkF m 150 #[.val (.ref o0), .val (.ref o1), .val (.ref b68), .val (.int (2 : Int32)), .val (.ref b68), .val (.int (4 : Int32)), .val (.int (4 : Int32)), .val (.int y3_89)] [(.ref br_156)]))
        have G177 := (Nat.le_trans (Nat.le_trans (Nat.le_trans (Nat.le_trans (Nat.le_trans (Nat.le_trans (Nat.le_trans hk22 Kq28.1) Kq48.1) E68.1) Kq89.1) (Keep.of_wr W94).1) (Keep.of_wr W151).1) Kq156.1)
        have hfin : (fun (v : Option Value) (h : Heap) (L : List Loc) => ∃ (br : Addr) (xr : List Int32), v = some (.ref br) ∧ Fr n0 L ∧ Keep h0 h [] ∧ h0.size ≤ br ∧ n0 ≤ br ∧ ag0 Z h br xr ∧ ((xr.length = 0 ↔ [c0, c1, c2, c3].length = 0) ∧ xr.length ≤ 4)) (some (.ref br_156)) T156.heap _ := ⟨br_156, [y0_89, y2_89], rfl, N156, K156, ds9, dg4, f0_156, ⟨by simp, by simp⟩⟩
        refine ab5 X156 hS G177 rfl hZ hEL hC hx hlk hP rfl rfl hrt (hb hby al3) (by decide) (by decide) ?_
        exact hfin
      · refine av0 X151 hx (hb hby aw2) (feq hc155).1 ?_
        refine ab0 X151 hx (hb hby az3) rfl rfl ?_
        refine ae0 X151 hx (hb hby aa4) rfl ?_
        refine aq1 X151 hx (hb hby ab4) rfl (l' := #[.val (.ref o0), .val (.ref o1), .val (.ref b68), .val (.int (3 : Int32)), .val (.ref b68), .val (.int (4 : Int32)), .val (.int (3 : Int32)), .val (.int y3_89)]) rfl ?_
        refine ak0 X151 hx (hb hby ac4) rfl ?_
        refine ae2 X151 hx hZ e151 A151 (j := (2 : Int32)) (v := y3_89) (i := 2) (by decide) (by show (2 : Nat) < 4; decide) (hb hby ad4) (fun T179 h179 X179 e179 W179 B179 => ?_)
        have A179 : ag0 Z h179 b68 [y0_89, y2_89, y3_89, y3_89] := B179
        have Sf179 := (A151.safe (EL := consts_1) hZ.alike)
        have Sw180 := Safe.wr W179 Sf179 hC.1 Sw152
        have Sw181 := Safe.wr W179 Sf179 hC.1 Sw153
        have Sw182 := Safe.wr W179 Sf179 hC.1 Sw154
        have hC := hC.trans (CHr.wr W179 Sf179 hC.1)
        have N179 := Fr.snoc X179 N151 ag3
        have K179 := Keep.wr K151 W179 (Or.inr an4)
        refine aq1 X179 hx (hb hby ak2) rfl (l' := #[.val (.ref o0), .val (.ref o1), .val (.ref b68), .val (.int (3 : Int32)), .val (.ref b68), .val (.int (4 : Int32)), .val (.int (4 : Int32)), .val (.int y3_89)]) rfl ?_
        refine am1 X179 hx (pc' := 93) (hb hby al2) ?_
        refine ak0 X179 hx (hb hby ab2) rfl ?_
        refine ak0 X179 hx (hb hby ac2) rfl ?_
        refine au0 X179 hx (pc' := 135) (hb hby ad2) (flt (by decide : ¬ ((4 : Int32) < (4 : Int32)))).2.1 ?_
        refine ae0 X179 hx (hb hby ah3) rfl ?_
        refine ab0 X179 hx (hb hby ai3) rfl rfl ?_
        refine ah1 X179 hx hZ e179 A179 (z := (4 : Int32)) rfl (hb hby aj3) ?_
        refine au0 X179 hx (pc' := 145) (hb hby ak3) (feq (by decide : ¬ ((3 : Int32) = (4 : Int32)))).2 ?_
        refine ab0 X179 hx (hb hby an5) rfl rfl ?_
        refine ae0 X179 hx (hb hby ao5) rfl ?_
        refine af1 X179 hx hZ (y := (⟨z_s5, "copyOf", "([II)[I"⟩ : MethodName)) hown (z_w hw 199 rfl) (z_w hw 200 rfl) (z_w hw 112 rfl) (z_w hw 201 rfl) (cv3 l Z a0 hw [] b68 y0_89 y2_89 y3_89 y3_89 h179 n0 (Nat.le_trans Z0 K179.1) A179) 0 e179 hml' (argsL := [(.ref b68), (.int (3 : Int32))]) (rest := []) (lenOf ah2 rfl) (hb hby ap5) (fun r183 T183 L183 X183 hQ183 => ?_)
        obtain ⟨br_183, rfl, Nq183, Kq183, ab8, dh4, f0_183⟩ := hQ183
        have N183 := Fr.app N179 Nq183
        have G184 := (((((G74.ext E68).keep Kq89).wr W94).wr W151).wr W179)
        have ne185 := z_nc G184.lt ab8
        have G186 := (((((G76.ext E68).keep Kq89).wr W94).wr W151).wr W179)
        have ne187 := z_nc G186.lt ab8
        have G188 := (((((G78.ext E68).keep Kq89 (ninS ne77 nin0)).other W94 ne77).other W151 ne77).other W179 ne77)
        have ne189 := z_nc G188.lt ab8
        have G190 := (((((G80.ext E68).keep Kq89 (ninS ne79 nin0)).other W94 ne79).other W151 ne79).other W179 ne79)
        have ne191 := z_nc G190.lt ab8
        have G192 := (((((G82.ext E68).keep Kq89 (ninS ne81 nin0)).other W94 ne81).other W151 ne81).other W179 ne81)
        have ne193 := z_nc G192.lt ab8
        have ne194 := z_nc A179.lt ab8
        have G195 := (((((G69.ext E68).keep Kq89 (ninS ne83 nin0)).other W94 ne83).other W151 ne83).other W179 ne83)
        have ne196 := z_nc G195.lt ab8
        have G197 := (((((G85.ext E68).keep Kq89).wr W94).wr W151).wr W179)
        have ne198 := z_nc G197.lt ab8
        have G199 := (((((G87.ext E68).keep Kq89 (ninS ne86 nin0)).other W94 ne86).other W151 ne86).other W179 ne86)
        have ne200 := z_nc G199.lt ab8
        have dt9 := Nat.le_trans K179.1 ab8
        have Sw201 := Safe.keep Kq183 sf0 hC.1 Sw180
        have Sw202 := Safe.keep Kq183 sf0 hC.1 Sw181
        have Sw203 := Safe.keep Kq183 sf0 hC.1 Sw182
        have hC := hC.trans (CHr.keep Kq183 sf0 hC.1)
        have K183 := Keep.trans K179 Kq183 all0
        show ac0 p e below P (T183.setTop (mkF m 150 #[.val (.ref o0), .val (.ref o1), .val (.ref b68), .val (.int (3 : Int32)), .val (.ref b68), .val (.int (4 : Int32)), .val (.int (4 : Int32)), .val (.int y3_89)] [(.ref br_183)]))
        have G204 := (Nat.le_trans (Nat.le_trans (Nat.le_trans (Nat.le_trans (Nat.le_trans (Nat.le_trans (Nat.le_trans (Nat.le_trans hk22 Kq28.1) Kq48.1) E68.1) Kq89.1) (Keep.of_wr W94).1) (Keep.of_wr W151).1) (Keep.of_wr W179).1) Kq183.1)
        have hfin : (fun (v : Option Value) (h : Heap) (L : List Loc) => ∃ (br : Addr) (xr : List Int32), v = some (.ref br) ∧ Fr n0 L ∧ Keep h0 h [] ∧ h0.size ≤ br ∧ n0 ≤ br ∧ ag0 Z h br xr ∧ ((xr.length = 0 ↔ [c0, c1, c2, c3].length = 0) ∧ xr.length ≤ 4)) (some (.ref br_183)) T183.heap _ := ⟨br_183, [y0_89, y2_89, y3_89], rfl, N183, K183, dt9, dh4, f0_183, ⟨by simp, by simp⟩⟩
        refine ab5 X183 hS G204 rfl hZ hEL hC hx hlk hP rfl rfl hrt (hb hby al3) (by decide) (by decide) ?_
        exact hfin
  · refine av0 X94 hx (hb hby aw2) (feq hc98).1 ?_
    refine ab0 X94 hx (hb hby az3) rfl rfl ?_
    refine ae0 X94 hx (hb hby aa4) rfl ?_
    refine aq1 X94 hx (hb hby ab4) rfl (l' := #[.val (.ref o0), .val (.ref o1), .val (.ref b68), .val (.int (2 : Int32)), .val (.ref b68), .val (.int (4 : Int32)), .val (.int (1 : Int32)), .val (.int y1_89)]) rfl ?_
    refine ak0 X94 hx (hb hby ac4) rfl ?_
    refine ae2 X94 hx hZ e94 A94 (j := (1 : Int32)) (v := y1_89) (i := 1) (by decide) (by show (1 : Nat) < 4; decide) (hb hby ad4) (fun T206 h206 X206 e206 W206 B206 => ?_)
    have A206 : ag0 Z h206 b68 [y0_89, y1_89, y2_89, y3_89] := B206
    have Sf206 := (A94.safe (EL := consts_1) hZ.alike)
    have Sw207 := Safe.wr W206 Sf206 hC.1 Sw95
    have Sw208 := Safe.wr W206 Sf206 hC.1 Sw96
    have Sw209 := Safe.wr W206 Sf206 hC.1 Sw97
    have hC := hC.trans (CHr.wr W206 Sf206 hC.1)
    have N206 := Fr.snoc X206 N94 ag3
    have K206 := Keep.wr K94 W206 (Or.inr an4)
    refine aq1 X206 hx (hb hby ak2) rfl (l' := #[.val (.ref o0), .val (.ref o1), .val (.ref b68), .val (.int (2 : Int32)), .val (.ref b68), .val (.int (4 : Int32)), .val (.int (2 : Int32)), .val (.int y1_89)]) rfl ?_
    refine am1 X206 hx (pc' := 93) (hb hby al2) ?_
    refine ak0 X206 hx (hb hby ab2) rfl ?_
    refine ak0 X206 hx (hb hby ac2) rfl ?_
    refine av0 X206 hx (hb hby ad2) (tlt (by decide : (2 : Int32) < (4 : Int32))).2.1 ?_
    refine az2 X206 hx (hb hby at3) rfl rfl ?_
    refine ak0 X206 hx (hb hby au3) rfl ?_
    refine al1 X206 hx hZ e206 A206 (j := (2 : Int32)) (v := y2_89) (i := 2) (by decide) rfl (hb hby av3) ?_
    refine ai1 X206 hx (hb hby aw3) (l' := #[.val (.ref o0), .val (.ref o1), .val (.ref b68), .val (.int (2 : Int32)), .val (.ref b68), .val (.int (4 : Int32)), .val (.int (2 : Int32)), .val (.int y2_89)]) rfl ?_
    refine ae0 X206 hx (hb hby ax3) rfl ?_
    refine aa3 X206 hx (hb hby ay3) ((if0 _ _).trans (feq (by decide : ¬ ((2 : Int32) = (0 : Int32)))).1) ?_
    refine ab0 X206 hx (hb hby ah5) rfl rfl ?_
    refine ae0 X206 hx (hb hby ai5) rfl ?_
    refine am0 X206 hx (hb hby aj5) (z := (1 : Int32)) rfl ?_
    refine ar2 X206 hx (hb hby ak5) (z := (1 : Int32)) rfl ?_
    refine al1 X206 hx hZ e206 A206 (j := (1 : Int32)) (v := y1_89) (i := 1) (by decide) rfl (hb hby al5) ?_
    refine ak0 X206 hx (hb hby am5) rfl ?_
    by_cases hc210 : y1_89 = y2_89
    · refine au0 X206 hx (pc' := 129) (hb hby aw2) (teq hc210).1 ?_
      refine aq1 X206 hx (hb hby ak2) rfl (l' := #[.val (.ref o0), .val (.ref o1), .val (.ref b68), .val (.int (2 : Int32)), .val (.ref b68), .val (.int (4 : Int32)), .val (.int (3 : Int32)), .val (.int y2_89)]) rfl ?_
      refine am1 X206 hx (pc' := 93) (hb hby al2) ?_
      refine ak0 X206 hx (hb hby ab2) rfl ?_
      refine ak0 X206 hx (hb hby ac2) rfl ?_
      refine av0 X206 hx (hb hby ad2) (tlt (by decide : (3 : Int32) < (4 : Int32))).2.1 ?_
      refine az2 X206 hx (hb hby at3) rfl rfl ?_
      refine ak0 X206 hx (hb hby au3) rfl ?_
      refine al1 X206 hx hZ e206 A206 (j := (3 : Int32)) (v := y3_89) (i := 3) (by decide) rfl (hb hby av3) ?_
      refine ai1 X206 hx (hb hby aw3) (l' := #[.val (.ref o0), .val (.ref o1), .val (.ref b68), .val (.int (2 : Int32)), .val (.ref b68), .val (.int (4 : Int32)), .val (.int (3 : Int32)), .val (.int y3_89)]) rfl ?_
      refine ae0 X206 hx (hb hby ax3) rfl ?_
      refine aa3 X206 hx (hb hby ay3) ((if0 _ _).trans (feq (by decide : ¬ ((2 : Int32) = (0 : Int32)))).1) ?_
      refine ab0 X206 hx (hb hby ah5) rfl rfl ?_
      refine ae0 X206 hx (hb hby ai5) rfl ?_
      refine am0 X206 hx (hb hby aj5) (z := (1 : Int32)) rfl ?_
      refine ar2 X206 hx (hb hby ak5) (z := (1 : Int32)) rfl ?_
      refine al1 X206 hx hZ e206 A206 (j := (1 : Int32)) (v := y1_89) (i := 1) (by decide) rfl (hb hby al5) ?_
      refine ak0 X206 hx (hb hby am5) rfl ?_
      by_cases hc211 : y1_89 = y3_89
      · refine au0 X206 hx (pc' := 129) (hb hby aw2) (teq hc211).1 ?_
        refine aq1 X206 hx (hb hby ak2) rfl (l' := #[.val (.ref o0), .val (.ref o1), .val (.ref b68), .val (.int (2 : Int32)), .val (.ref b68), .val (.int (4 : Int32)), .val (.int (4 : Int32)), .val (.int y3_89)]) rfl ?_
        refine am1 X206 hx (pc' := 93) (hb hby al2) ?_
        refine ak0 X206 hx (hb hby ab2) rfl ?_
        refine ak0 X206 hx (hb hby ac2) rfl ?_
        refine au0 X206 hx (pc' := 135) (hb hby ad2) (flt (by decide : ¬ ((4 : Int32) < (4 : Int32)))).2.1 ?_
        refine ae0 X206 hx (hb hby ah3) rfl ?_
        refine ab0 X206 hx (hb hby ai3) rfl rfl ?_
        refine ah1 X206 hx hZ e206 A206 (z := (4 : Int32)) rfl (hb hby aj3) ?_
        refine au0 X206 hx (pc' := 145) (hb hby ak3) (feq (by decide : ¬ ((2 : Int32) = (4 : Int32)))).2 ?_
        refine ab0 X206 hx (hb hby an5) rfl rfl ?_
        refine ae0 X206 hx (hb hby ao5) rfl ?_
        refine af1 X206 hx hZ (y := (⟨z_s5, "copyOf", "([II)[I"⟩ : MethodName)) hown (z_w hw 199 rfl) (z_w hw 200 rfl) (z_w hw 112 rfl) (z_w hw 201 rfl) (cu3 l Z a0 hw [] b68 y0_89 y1_89 y2_89 y3_89 h206 n0 (Nat.le_trans Z0 K206.1) A206) 0 e206 hml' (argsL := [(.ref b68), (.int (2 : Int32))]) (rest := []) (lenOf ah2 rfl) (hb hby ap5) (fun r212 T212 L212 X212 hQ212 => ?_)
        obtain ⟨br_212, rfl, Nq212, Kq212, ac8, di4, f0_212⟩ := hQ212
        have N212 := Fr.app N206 Nq212
        have G213 := ((((G74.ext E68).keep Kq89).wr W94).wr W206)
        have ne214 := z_nc G213.lt ac8
        have G215 := ((((G76.ext E68).keep Kq89).wr W94).wr W206)
        have ne216 := z_nc G215.lt ac8
        have G217 := ((((G78.ext E68).keep Kq89 (ninS ne77 nin0)).other W94 ne77).other W206 ne77)
        have ne218 := z_nc G217.lt ac8
        have G219 := ((((G80.ext E68).keep Kq89 (ninS ne79 nin0)).other W94 ne79).other W206 ne79)
        have ne220 := z_nc G219.lt ac8
        have G221 := ((((G82.ext E68).keep Kq89 (ninS ne81 nin0)).other W94 ne81).other W206 ne81)
        have ne222 := z_nc G221.lt ac8
        have ne223 := z_nc A206.lt ac8
        have G224 := ((((G69.ext E68).keep Kq89 (ninS ne83 nin0)).other W94 ne83).other W206 ne83)
        have ne225 := z_nc G224.lt ac8
        have G226 := ((((G85.ext E68).keep Kq89).wr W94).wr W206)
        have ne227 := z_nc G226.lt ac8
        have G228 := ((((G87.ext E68).keep Kq89 (ninS ne86 nin0)).other W94 ne86).other W206 ne86)
        have ne229 := z_nc G228.lt ac8
        have du9 := Nat.le_trans K206.1 ac8
        have Sw230 := Safe.keep Kq212 sf0 hC.1 Sw207
        have Sw231 := Safe.keep Kq212 sf0 hC.1 Sw208
        have Sw232 := Safe.keep Kq212 sf0 hC.1 Sw209
        have hC := hC.trans (CHr.keep Kq212 sf0 hC.1)
        have K212 := Keep.trans K206 Kq212 all0
        show ac0 p e below P (T212.setTop (mkF m 150 #[.val (.ref o0), .val (.ref o1), .val (.ref b68), .val (.int (2 : Int32)), .val (.ref b68), .val (.int (4 : Int32)), .val (.int (4 : Int32)), .val (.int y3_89)] [(.ref br_212)]))
        have G233 := (Nat.le_trans (Nat.le_trans (Nat.le_trans (Nat.le_trans (Nat.le_trans (Nat.le_trans (Nat.le_trans hk22 Kq28.1) Kq48.1) E68.1) Kq89.1) (Keep.of_wr W94).1) (Keep.of_wr W206).1) Kq212.1)
        have hfin : (fun (v : Option Value) (h : Heap) (L : List Loc) => ∃ (br : Addr) (xr : List Int32), v = some (.ref br) ∧ Fr n0 L ∧ Keep h0 h [] ∧ h0.size ≤ br ∧ n0 ≤ br ∧ ag0 Z h br xr ∧ ((xr.length = 0 ↔ [c0, c1, c2, c3].length = 0) ∧ xr.length ≤ 4)) (some (.ref br_212)) T212.heap _ := ⟨br_212, [y0_89, y1_89], rfl, N212, K212, du9, di4, f0_212, ⟨by simp, by simp⟩⟩
        refine ab5 X212 hS G233 rfl hZ hEL hC hx hlk hP rfl rfl hrt (hb hby al3) (by decide) (by decide) ?_
        exact hfin
      · refine av0 X206 hx (hb hby aw2) (feq hc211).1 ?_
        refine ab0 X206 hx (hb hby az3) rfl rfl ?_
        refine ae0 X206 hx (hb hby aa4) rfl ?_
        refine aq1 X206 hx (hb hby ab4) rfl (l' := #[.val (.ref o0), .val (.ref o1), .val (.ref b68), .val (.int (3 : Int32)), .val (.ref b68), .val (.int (4 : Int32)), .val (.int (3 : Int32)), .val (.int y3_89)]) rfl ?_
        refine ak0 X206 hx (hb hby ac4) rfl ?_
        refine ae2 X206 hx hZ e206 A206 (j := (2 : Int32)) (v := y3_89) (i := 2) (by decide) (by show (2 : Nat) < 4; decide) (hb hby ad4) (fun T235 h235 X235 e235 W235 B235 => ?_)
        have A235 : ag0 Z h235 b68 [y0_89, y1_89, y3_89, y3_89] := B235
        have Sf235 := (A206.safe (EL := consts_1) hZ.alike)
        have Sw236 := Safe.wr W235 Sf235 hC.1 Sw207
        have Sw237 := Safe.wr W235 Sf235 hC.1 Sw208
        have Sw238 := Safe.wr W235 Sf235 hC.1 Sw209
        have hC := hC.trans (CHr.wr W235 Sf235 hC.1)
        have N235 := Fr.snoc X235 N206 ag3
        have K235 := Keep.wr K206 W235 (Or.inr an4)
        refine aq1 X235 hx (hb hby ak2) rfl (l' := #[.val (.ref o0), .val (.ref o1), .val (.ref b68), .val (.int (3 : Int32)), .val (.ref b68), .val (.int (4 : Int32)), .val (.int (4 : Int32)), .val (.int y3_89)]) rfl ?_
        refine am1 X235 hx (pc' := 93) (hb hby al2) ?_
        refine ak0 X235 hx (hb hby ab2) rfl ?_
        refine ak0 X235 hx (hb hby ac2) rfl ?_
        refine au0 X235 hx (pc' := 135) (hb hby ad2) (flt (by decide : ¬ ((4 : Int32) < (4 : Int32)))).2.1 ?_
        refine ae0 X235 hx (hb hby ah3) rfl ?_
        refine ab0 X235 hx (hb hby ai3) rfl rfl ?_
        refine ah1 X235 hx hZ e235 A235 (z := (4 : Int32)) rfl (hb hby aj3) ?_
        refine au0 X235 hx (pc' := 145) (hb hby ak3) (feq (by decide : ¬ ((3 : Int32) = (4 : Int32)))).2 ?_
        refine ab0 X235 hx (hb hby an5) rfl rfl ?_
        refine ae0 X235 hx (hb hby ao5) rfl ?_
        refine af1 X235 hx hZ (y := (⟨z_s5, "copyOf", "([II)[I"⟩ : MethodName)) hown (z_w hw 199 rfl) (z_w hw 200 rfl) (z_w hw 112 rfl) (z_w hw 201 rfl) (cv3 l Z a0 hw [] b68 y0_89 y1_89 y3_89 y3_89 h235 n0 (Nat.le_trans Z0 K235.1) A235) 0 e235 hml' (argsL := [(.ref b68), (.int (3 : Int32))]) (rest := []) (lenOf ah2 rfl) (hb hby ap5) (fun r239 T239 L239 X239 hQ239 => ?_)
        obtain ⟨br_239, rfl, Nq239, Kq239, ad8, dj4, f0_239⟩ := hQ239
        have N239 := Fr.app N235 Nq239
        have G240 := (((((G74.ext E68).keep Kq89).wr W94).wr W206).wr W235)
        have ne241 := z_nc G240.lt ad8
        have G242 := (((((G76.ext E68).keep Kq89).wr W94).wr W206).wr W235)
        have ne243 := z_nc G242.lt ad8
        have G244 := (((((G78.ext E68).keep Kq89 (ninS ne77 nin0)).other W94 ne77).other W206 ne77).other W235 ne77)
        have ne245 := z_nc G244.lt ad8
        have G246 := (((((G80.ext E68).keep Kq89 (ninS ne79 nin0)).other W94 ne79).other W206 ne79).other W235 ne79)
        have ne247 := z_nc G246.lt ad8
        have G248 := (((((G82.ext E68).keep Kq89 (ninS ne81 nin0)).other W94 ne81).other W206 ne81).other W235 ne81)
        have ne249 := z_nc G248.lt ad8
        have ne250 := z_nc A235.lt ad8
        have G251 := (((((G69.ext E68).keep Kq89 (ninS ne83 nin0)).other W94 ne83).other W206 ne83).other W235 ne83)
        have ne252 := z_nc G251.lt ad8
        have G253 := (((((G85.ext E68).keep Kq89).wr W94).wr W206).wr W235)
        have ne254 := z_nc G253.lt ad8
        have G255 := (((((G87.ext E68).keep Kq89 (ninS ne86 nin0)).other W94 ne86).other W206 ne86).other W235 ne86)
        have ne256 := z_nc G255.lt ad8
        have dv9 := Nat.le_trans K235.1 ad8
        have Sw257 := Safe.keep Kq239 sf0 hC.1 Sw236
        have Sw258 := Safe.keep Kq239 sf0 hC.1 Sw237
        have Sw259 := Safe.keep Kq239 sf0 hC.1 Sw238
        have hC := hC.trans (CHr.keep Kq239 sf0 hC.1)
        have K239 := Keep.trans K235 Kq239 all0
        show ac0 p e below P (T239.setTop (mkF m 150 #[.val (.ref o0), .val (.ref o1), .val (.ref b68), .val (.int (3 : Int32)), .val (.ref b68), .val (.int (4 : Int32)), .val (.int (4 : Int32)), .val (.int y3_89)] [(.ref br_239)]))
        have G260 := (Nat.le_trans (Nat.le_trans (Nat.le_trans (Nat.le_trans (Nat.le_trans (Nat.le_trans (Nat.le_trans (Nat.le_trans hk22 Kq28.1) Kq48.1) E68.1) Kq89.1) (Keep.of_wr W94).1) (Keep.of_wr W206).1) (Keep.of_wr W235).1) Kq239.1)
        have hfin : (fun (v : Option Value) (h : Heap) (L : List Loc) => ∃ (br : Addr) (xr : List Int32), v = some (.ref br) ∧ Fr n0 L ∧ Keep h0 h [] ∧ h0.size ≤ br ∧ n0 ≤ br ∧ ag0 Z h br xr ∧ ((xr.length = 0 ↔ [c0, c1, c2, c3].length = 0) ∧ xr.length ≤ 4)) (some (.ref br_239)) T239.heap _ := ⟨br_239, [y0_89, y1_89, y3_89], rfl, N239, K239, dv9, dj4, f0_239, ⟨by simp, by simp⟩⟩
        refine ab5 X239 hS G260 rfl hZ hEL hC hx hlk hP rfl rfl hrt (hb hby al3) (by decide) (by decide) ?_
        exact hfin
    · refine av0 X206 hx (hb hby aw2) (feq hc210).1 ?_
      refine ab0 X206 hx (hb hby az3) rfl rfl ?_
      refine ae0 X206 hx (hb hby aa4) rfl ?_
      refine aq1 X206 hx (hb hby ab4) rfl (l' := #[.val (.ref o0), .val (.ref o1), .val (.ref b68), .val (.int (3 : Int32)), .val (.ref b68), .val (.int (4 : Int32)), .val (.int (2 : Int32)), .val (.int y2_89)]) rfl ?_
      refine ak0 X206 hx (hb hby ac4) rfl ?_
      refine ae2 X206 hx hZ e206 A206 (j := (2 : Int32)) (v := y2_89) (i := 2) (by decide) (by show (2 : Nat) < 4; decide) (hb hby ad4) (fun T262 h262 X262 e262 W262 B262 => ?_)
      have A262 : ag0 Z h262 b68 [y0_89, y1_89, y2_89, y3_89] := B262
      have Sf262 := (A206.safe (EL := consts_1) hZ.alike)
      have Sw263 := Safe.wr W262 Sf262 hC.1 Sw207
      have Sw264 := Safe.wr W262 Sf262 hC.1 Sw208
      have Sw265 := Safe.wr W262 Sf262 hC.1 Sw209
      have hC := hC.trans (CHr.wr W262 Sf262 hC.1)
      have N262 := Fr.snoc X262 N206 ag3
      have K262 := Keep.wr K206 W262 (Or.inr an4)
      refine aq1 X262 hx (hb hby ak2) rfl (l' := #[.val (.ref o0), .val (.ref o1), .val (.ref b68), .val (.int (3 : Int32)), .val (.ref b68), .val (.int (4 : Int32)), .val (.int (3 : Int32)), .val (.int y2_89)]) rfl ?_
      refine am1 X262 hx (pc' := 93) (hb hby al2) ?_
      refine ak0 X262 hx (hb hby ab2) rfl ?_
      refine ak0 X262 hx (hb hby ac2) rfl ?_
      refine av0 X262 hx (hb hby ad2) (tlt (by decide : (3 : Int32) < (4 : Int32))).2.1 ?_
      refine az2 X262 hx (hb hby at3) rfl rfl ?_
      refine ak0 X262 hx (hb hby au3) rfl ?_
      refine al1 X262 hx hZ e262 A262 (j := (3 : Int32)) (v := y3_89) (i := 3) (by decide) rfl (hb hby av3) ?_
      refine ai1 X262 hx (hb hby aw3) (l' := #[.val (.ref o0), .val (.ref o1), .val (.ref b68), .val (.int (3 : Int32)), .val (.ref b68), .val (.int (4 : Int32)), .val (.int (3 : Int32)), .val (.int y3_89)]) rfl ?_
      refine ae0 X262 hx (hb hby ax3) rfl ?_
      refine aa3 X262 hx (hb hby ay3) ((if0 _ _).trans (feq (by decide : ¬ ((3 : Int32) = (0 : Int32)))).1) ?_
      refine ab0 X262 hx (hb hby ah5) rfl rfl ?_
      refine ae0 X262 hx (hb hby ai5) rfl ?_
      refine am0 X262 hx (hb hby aj5) (z := (1 : Int32)) rfl ?_
      refine ar2 X262 hx (hb hby ak5) (z := (2 : Int32)) rfl ?_
      refine al1 X262 hx hZ e262 A262 (j := (2 : Int32)) (v := y2_89) (i := 2) (by decide) rfl (hb hby al5) ?_
      refine ak0 X262 hx (hb hby am5) rfl ?_
      by_cases hc266 : y2_89 = y3_89
      · refine au0 X262 hx (pc' := 129) (hb hby aw2) (teq hc266).1 ?_
        refine aq1 X262 hx (hb hby ak2) rfl (l' := #[.val (.ref o0), .val (.ref o1), .val (.ref b68), .val (.int (3 : Int32)), .val (.ref b68), .val (.int (4 : Int32)), .val (.int (4 : Int32)), .val (.int y3_89)]) rfl ?_
        refine am1 X262 hx (pc' := 93) (hb hby al2) ?_
        refine ak0 X262 hx (hb hby ab2) rfl ?_
        refine ak0 X262 hx (hb hby ac2) rfl ?_
        refine au0 X262 hx (pc' := 135) (hb hby ad2) (flt (by decide : ¬ ((4 : Int32) < (4 : Int32)))).2.1 ?_
        refine ae0 X262 hx (hb hby ah3) rfl ?_
        refine ab0 X262 hx (hb hby ai3) rfl rfl ?_
        refine ah1 X262 hx hZ e262 A262 (z := (4 : Int32)) rfl (hb hby aj3) ?_
        refine au0 X262 hx (pc' := 145) (hb hby ak3) (feq (by decide : ¬ ((3 : Int32) = (4 : Int32)))).2 ?_
        refine ab0 X262 hx (hb hby an5) rfl rfl ?_
        refine ae0 X262 hx (hb hby ao5) rfl ?_
        refine af1 X262 hx hZ (y := (⟨z_s5, "copyOf", "([II)[I"⟩ : MethodName)) hown (z_w hw 199 rfl) (z_w hw 200 rfl) (z_w hw 112 rfl) (z_w hw 201 rfl) (cv3 l Z a0 hw [] b68 y0_89 y1_89 y2_89 y3_89 h262 n0 (Nat.le_trans Z0 K262.1) A262) 0 e262 hml' (argsL := [(.ref b68), (.int (3 : Int32))]) (rest := []) (lenOf ah2 rfl) (hb hby ap5) (fun r267 T267 L267 X267 hQ267 => ?_)
        obtain ⟨br_267, rfl, Nq267, Kq267, ae8, dk4, f0_267⟩ := hQ267
        have N267 := Fr.app N262 Nq267
        have G268 := (((((G74.ext E68).keep Kq89).wr W94).wr W206).wr W262)
        have ne269 := z_nc G268.lt ae8
        have G270 := (((((G76.ext E68).keep Kq89).wr W94).wr W206).wr W262)
        have ne271 := z_nc G270.lt ae8
        have G272 := (((((G78.ext E68).keep Kq89 (ninS ne77 nin0)).other W94 ne77).other W206 ne77).other W262 ne77)
        have ne273 := z_nc G272.lt ae8
        have G274 := (((((G80.ext E68).keep Kq89 (ninS ne79 nin0)).other W94 ne79).other W206 ne79).other W262 ne79)
        have ne275 := z_nc G274.lt ae8
        have G276 := (((((G82.ext E68).keep Kq89 (ninS ne81 nin0)).other W94 ne81).other W206 ne81).other W262 ne81)
        have ne277 := z_nc G276.lt ae8
        have ne278 := z_nc A262.lt ae8
        have G279 := (((((G69.ext E68).keep Kq89 (ninS ne83 nin0)).other W94 ne83).other W206 ne83).other W262 ne83)
        have ne280 := z_nc G279.lt ae8
        have G281 := (((((G85.ext E68).keep Kq89).wr W94).wr W206).wr W262)
        have ne282 := z_nc G281.lt ae8
        have G283 := (((((G87.ext E68).keep Kq89 (ninS ne86 nin0)).other W94 ne86).other W206 ne86).other W262 ne86)
        have ne284 := z_nc G283.lt ae8
        have dw9 := Nat.le_trans K262.1 ae8
        have Sw285 := Safe.keep Kq267 sf0 hC.1 Sw263
        have Sw286 := Safe.keep Kq267 sf0 hC.1 Sw264
        have Sw287 := Safe.keep Kq267 sf0 hC.1 Sw265
        have hC := hC.trans (CHr.keep Kq267 sf0 hC.1)
        have K267 := Keep.trans K262 Kq267 all0
        show ac0 p e below P (T267.setTop (mkF m 150 #[.val (.ref o0), .val (.ref o1), .val (.ref b68), .val (.int (3 : Int32)), .val (.ref b68), .val (.int (4 : Int32)), .val (.int (4 : Int32)), .val (.int y3_89)] [(.ref br_267)]))
        have G288 := (Nat.le_trans (Nat.le_trans (Nat.le_trans (Nat.le_trans (Nat.le_trans (Nat.le_trans (Nat.le_trans (Nat.le_trans hk22 Kq28.1) Kq48.1) E68.1) Kq89.1) (Keep.of_wr W94).1) (Keep.of_wr W206).1) (Keep.of_wr W262).1) Kq267.1)
        have hfin : (fun (v : Option Value) (h : Heap) (L : List Loc) => ∃ (br : Addr) (xr : List Int32), v = some (.ref br) ∧ Fr n0 L ∧ Keep h0 h [] ∧ h0.size ≤ br ∧ n0 ≤ br ∧ ag0 Z h br xr ∧ ((xr.length = 0 ↔ [c0, c1, c2, c3].length = 0) ∧ xr.length ≤ 4)) (some (.ref br_267)) T267.heap _ := ⟨br_267, [y0_89, y1_89, y2_89], rfl, N267, K267, dw9, dk4, f0_267, ⟨by simp, by simp⟩⟩
        refine ab5 X267 hS G288 rfl hZ hEL hC hx hlk hP rfl rfl hrt (hb hby al3) (by decide) (by decide) ?_
        exact hfin
      · refine av0 X262 hx (hb hby aw2) (feq hc266).1 ?_
        refine ab0 X262 hx (hb hby az3) rfl rfl ?_
        refine ae0 X262 hx (hb hby aa4) rfl ?_
        refine aq1 X262 hx (hb hby ab4) rfl (l' := #[.val (.ref o0), .val (.ref o1), .val (.ref b68), .val (.int (4 : Int32)), .val (.ref b68), .val (.int (4 : Int32)), .val (.int (3 : Int32)), .val (.int y3_89)]) rfl ?_
        refine ak0 X262 hx (hb hby ac4) rfl ?_
        refine ae2 X262 hx hZ e262 A262 (j := (3 : Int32)) (v := y3_89) (i := 3) (by decide) (by show (3 : Nat) < 4; decide) (hb hby ad4) (fun T290 h290 X290 e290 W290 B290 => ?_)
        have A290 : ag0 Z h290 b68 [y0_89, y1_89, y2_89, y3_89] := B290
        have Sf290 := (A262.safe (EL := consts_1) hZ.alike)
        have Sw291 := Safe.wr W290 Sf290 hC.1 Sw263
        have Sw292 := Safe.wr W290 Sf290 hC.1 Sw264
        have Sw293 := Safe.wr W290 Sf290 hC.1 Sw265
        have hC := hC.trans (CHr.wr W290 Sf290 hC.1)
        have N290 := Fr.snoc X290 N262 ag3
        have K290 := Keep.wr K262 W290 (Or.inr an4)
        refine aq1 X290 hx (hb hby ak2) rfl (l' := #[.val (.ref o0), .val (.ref o1), .val (.ref b68), .val (.int (4 : Int32)), .val (.ref b68), .val (.int (4 : Int32)), .val (.int (4 : Int32)), .val (.int y3_89)]) rfl ?_
        refine am1 X290 hx (pc' := 93) (hb hby al2) ?_
        refine ak0 X290 hx (hb hby ab2) rfl ?_
        refine ak0 X290 hx (hb hby ac2) rfl ?_
        refine au0 X290 hx (pc' := 135) (hb hby ad2) (flt (by decide : ¬ ((4 : Int32) < (4 : Int32)))).2.1 ?_
        refine ae0 X290 hx (hb hby ah3) rfl ?_
        refine ab0 X290 hx (hb hby ai3) rfl rfl ?_
        refine ah1 X290 hx hZ e290 A290 (z := (4 : Int32)) rfl (hb hby aj3) ?_
        refine av0 X290 hx (hb hby ak3) (teq (by decide : (4 : Int32) = (4 : Int32))).2 ?_
        refine ab0 X290 hx (hb hby bk1) rfl rfl ?_
        refine am1 X290 hx (pc' := 150) (hb hby bl1) ?_
        have G294 := (Nat.le_trans (Nat.le_trans (Nat.le_trans (Nat.le_trans (Nat.le_trans (Nat.le_trans (Nat.le_trans (Nat.le_trans hk22 Kq28.1) Kq48.1) E68.1) Kq89.1) (Keep.of_wr W94).1) (Keep.of_wr W206).1) (Keep.of_wr W262).1) (Keep.of_wr W290).1)
        have hfin : (fun (v : Option Value) (h : Heap) (L : List Loc) => ∃ (br : Addr) (xr : List Int32), v = some (.ref br) ∧ Fr n0 L ∧ Keep h0 h [] ∧ h0.size ≤ br ∧ n0 ≤ br ∧ ag0 Z h br xr ∧ ((xr.length = 0 ↔ [c0, c1, c2, c3].length = 0) ∧ xr.length ≤ 4)) (some (.ref b68)) h290 _ := ⟨b68, [y0_89, y1_89, y2_89, y3_89], rfl, N290, K290, an4, ag3, A290, ⟨by simp, by simp⟩⟩
        refine ab5 X290 hS G294 e290 hZ hEL hC hx hlk hP rfl rfl hrt (hb hby al3) (by decide) (by decide) ?_
        rw [e290]; exact hfin
theorem dx9 (m : MethodId) (o0 : Addr) (o1 : Addr) : entryFrame m #[(.ref o0), (.ref o1)] 8 = mkF m 0 #[.val (.ref o0), .val (.ref o1), .unset, .unset, .unset, .unset, .unset, .unset] [] := by first | (simp [entryFrame, mkF, argsToLocals, Value.category]; done) | rfl
set_option maxRecDepth 65536 in
set_option maxHeartbeats 40000000 in
theorem es1 (l : Launch) (Z : State) (a0 : Array Value) (hw : ∀ d ∈ tables_1, d.before a0 Z = true) (ws : List Jvm.Cond) (o0 : Addr) (o1 : Addr) (n : Nat) (ah0 : Addr) (aa0 : Int32) (h0 : Heap) (n0 : Nat) (Z0 : n0 ≤ h0.size) (E_o1 : Exa Z h0 o1 z_s1) (ac1 : Fld Z h0 o1 z_s1 "value" "[B" (.ref ah0)) (aa1 : Fld Z h0 o1 z_s1 "coder" "B" (.int (0 : Int32))) (af0 : Sta Z h0 z_s1 z_s8 "Z" (.int aa0)) (A_o0 : ag0 Z h0 o0 ([] : List Int32)) (at0 : ao0 Z h0 ah0 n) (hnz : ¬ (aa0 = (0 : Int32))) (hn : bv2 n) :
    al9 l Z consts_1 (⟨z_s3, "distinct", "([ILjava/lang/String;)[I"⟩ : MethodName) prog_6_method_14_code 8 (some (.array .int)) ws ({ frames := 6, cells := 9, slots := 170, locals := 114 } : Room) #[(.ref o0), (.ref o1)] h0 (fun (v : Option Value) (h : Heap) (L : List Loc) => ∃ (br : Addr) (xr : List Int32), v = some (.ref br) ∧ Fr n0 L ∧ Keep h0 h [] ∧ h0.size ≤ br ∧ n0 ≤ br ∧ ag0 Z h br xr ∧ ((xr.length = 0 ↔ ([] : List Int32).length = 0) ∧ xr.length ≤ 4)) := by
  refine bo1 (plainFor_of_name an0) ?_
  intro p e s m below meth c s₁ P vm0 k0 hx hby hml hrt hlk hown hnm hZ X0 e0 hS hk hC hP
  have N0 := Fr.nil n0
  have K0 := Keep.refl h0 []
  have hml' : c.maxLocals = 8 := hml
  have hEL := bj7 hw
  refine ar0 (dx9 m o0 o1) ?_
  show ac0 p e below P (s₁.setTop (mkF m 0 #[.val (.ref o0), .val (.ref o1), .unset, .unset, .unset, .unset, .unset, .unset] []))
  refine ab0 X0 hx (hb hby br6) rfl rfl ?_
  obtain ⟨T1, h1, X1, e1, E1, A1, D1, -, st1⟩ := newO X0 hx hZ hown (z_w hw 26 rfl) (z_w hw 27 rfl) (z_w hw 28 rfl) e0 (g := (mkF m 1 #[.val (.ref o0), .val (.ref o1), .unset, .unset, .unset, .unset, .unset, .unset] [(.ref o0)])) rfl (hb hby bs6) (by decide) (by decide)
  obtain ⟨b1, g1⟩ : ∃ z, z = h0.size := ⟨_, rfl⟩
  rw [← g1] at A1 D1 st1
  have hC := hC.trans (CHr.ext E1 hC.1)
  have ne2 := z_nb A_o0.lt g1
  have ne3 := z_nb E_o1.lt g1
  have ne4 := z_nb at0.lt g1
  have ao1 : n0 ≤ b1 := Nat.le_trans (Nat.le_trans Z0 K0.1) (Nat.le_of_eq g1.symm)
  have ay1 : h0.size ≤ b1 := Nat.le_trans K0.1 (Nat.le_of_eq g1.symm)
  have K1 := Keep.ext K0 E1
  have at4 : Fld Z h1 b1 z_s0 "value" "[B" .null := D1 (Or.inl (z_w hw 41 rfl)) (ty := (.array .byte)) (by decide)
  have au4 : Fld Z h1 b1 z_s0 "coder" "B" (.int (0 : Int32)) := D1 (Or.inl (z_w hw 43 rfl)) (ty := .byte) (by decide)
  have ax8 : Fld Z h1 b1 z_s0 "count" "I" (.int (0 : Int32)) := D1 (Or.inl (z_w hw 68 rfl)) (ty := .int) (by decide)
  refine ae1 (fun _ => st1 _) ?_
  show ac0 p e below P (T1.setTop (mkF m 4 #[.val (.ref o0), .val (.ref o1), .unset, .unset, .unset, .unset, .unset, .unset] [(.ref b1), (.ref o0)]))
  refine an6 X1 hx (hb hby bt6) rfl ?_
  have G6 := (af0.ext E1)
  refine ai9 X1 hx hZ (y := (⟨z_s2, "<init>", "()V"⟩ : MethodName)) hown (z_w hw 29 rfl) (z_w hw 30 rfl) (z_w hw 28 rfl) (z_w hw 31 rfl) (bn7 l Z a0 hw [] b1 aa0 h1 n0 (Nat.le_trans Z0 K1.1) A1 at4 au4 ax8 G6 ao1 hnz) 2 e1 hml' (a := b1) (argsL := []) (rest := [(.ref b1), (.ref o0)]) (lenOf bj1 rfl) (hb hby bu6) (fun r5 T5 L5 X5 hQ5 => ?_)
  obtain ⟨b3_1_5, rfl, Nq5, Kq5, af2, ay8, f0_5, f1_5, f2_5, f3_5, f4_5⟩ := hQ5
  have N5 := Fr.app N0 Nq5
  have ne7 := z_nc A1.lt af2
  have G8 := (A_o0.ext E1)
  have ne9 := z_nc G8.lt af2
  have G10 := (E_o1.ext E1)
  have ne11 := z_nc G10.lt af2
  have G12 := (at0.ext E1)
  have ne13 := z_nc G12.lt af2
  have ak9 := Nat.le_trans K1.1 af2
  have Sw14 := Safe.keep Kq5 (sfS (Safe.exa (EL := consts_1) hZ.alike A1 (by decide) (by decide)) sf0) hC.1 (Safe.new af2)
  have hC := hC.trans (CHr.keep Kq5 (sfS (Safe.exa (EL := consts_1) hZ.alike A1 (by decide) (by decide)) sf0) hC.1)
  have K5 := Keep.trans K1 Kq5 (allS (Or.inr ay1) all0)
  show ac0 p e below P (T5.setTop (mkF m 8 #[.val (.ref o0), .val (.ref o1), .unset, .unset, .unset, .unset, .unset, .unset] [(.ref b1), (.ref o0)]))
  refine ab0 X5 hx (hb hby bv6) rfl rfl ?_
  have G16 := (G10.keep Kq5)
  have G17 := ((ac1.ext E1).keep Kq5 (ninS ne3 nin0))
  have G18 := ((aa1.ext E1).keep Kq5 (ninS ne3 nin0))
  have G19 := (an2 G6 Kq5 (allS (ah6 A1) all0))
  have G20 := (G12.keep Kq5 (ninS ne4 nin0))
  refine ag2 X5 hx hZ (y := (⟨z_s2, "append", z_s4⟩ : MethodName)) (z := (⟨z_s2, "append", z_s4⟩ : MethodName)) hown (z_w hw 44 rfl) (z_w hw 45 rfl) (notFace_of_selects (args := #[]) (mvT hZ (z_w hw 47 rfl))) (z_w hw 47 rfl) (z_w hw 46 rfl) (z_w hw 28 rfl) (z_w hw 48 rfl) f0_5 (bu7 l Z a0 hw [] b1 o1 n b3_1_5 ah0 aa0 T5.heap n0 (Nat.le_trans Z0 K5.1) f0_5 G16 f1_5 f2_5 f3_5 G17 G18 G19 f4_5 G20 ao1 ay8 ne7 ne3.symm ne4.symm ne11.symm ne13.symm hnz hn) 1 rfl hml' (argsL := [(.ref o1)]) (rest := [(.ref o0)]) (lenOf ag1 rfl) (hb hby bw6) (fun r15 T15 L15 X15 hQ15 => ?_)
  obtain ⟨rfl, Nq15, Kq15, f0_15, f1_15, f2_15, f3_15, f4_15⟩ := hQ15
  have N15 := Fr.app N5 Nq15
  have Sw21 := Safe.keep Kq15 (sfS (Safe.exa (EL := consts_1) hZ.alike f0_5 (by decide) (by decide)) (sfS Sw14 sf0)) hC.1 Sw14
  have hC := hC.trans (CHr.keep Kq15 (sfS (Safe.exa (EL := consts_1) hZ.alike f0_5 (by decide) (by decide)) (sfS Sw14 sf0)) hC.1)
  have K15 := Keep.trans K5 Kq15 (allS (Or.inr ay1) (allS (Or.inr ak9) all0))
  show ac0 p e below P (T15.setTop (mkF m 12 #[.val (.ref o0), .val (.ref o1), .unset, .unset, .unset, .unset, .unset, .unset] [(.ref b1), (.ref o0)]))
  have G23 := (Nat.le_trans (Nat.le_trans (Nat.le_trans hk E1.1) Kq5.1) Kq15.1)
  have Sw24 := (Safe.exa (EL := consts_1) hZ.alike f0_15 (by decide) (by decide))
  have Sw25 := Sw21
  obtain ⟨a22, T22, h22, k22, b22, c22, X22, e22, E22, hS, hk22, hZ, hown, EA22, FC22, FV22, VV22, -, -, hC22, Li22, Ne22, st22⟩ := ldcCH X15 hx hZ hown (z_w hw 94 rfl) (bz2 hw) rfl hS G23 hEL (List.mem_of_getElem? (i := 5) rfl) hC.1 (vs := [(.int (32 : Int32)), (.int (109 : Int32)), (.int (117 : Int32)), (.int (115 : Int32)), (.int (116 : Int32)), (.int (32 : Int32)), (.int (110 : Int32)), (.int (111 : Int32)), (.int (116 : Int32)), (.int (32 : Int32)), (.int (98 : Int32)), (.int (101 : Int32)), (.int (32 : Int32)), (.int (110 : Int32)), (.int (117 : Int32)), (.int (108 : Int32)), (.int (108 : Int32))]) (z := (17 : Int32)) ⟨by decide, by rfl⟩ (by decide) (by decide) (g := (mkF m 12 #[.val (.ref o0), .val (.ref o1), .unset, .unset, .unset, .unset, .unset, .unset] [(.ref b1), (.ref o0)])) rfl (hb hby bb4) (n := 68) (by decide) (by decide) (by decide) (by decide)
  have Sw26 := hC22.safe f0_15.lt Sw24
  have Sw27 := hC22.safe f4_15.lt Sw25
  have hC := hC.trans hC22
  have K22 := Keep.ext K15 E22
  have BV22 : ao0 Z h22 b22 17 := ao0.ofV VV22 (by decide) (by rfl)
  refine ae1 (fun _ => st22 _) ?_
  show ac0 p e below P (T22.setTop (mkF m 14 #[.val (.ref o0), .val (.ref o1), .unset, .unset, .unset, .unset, .unset, .unset] [(.ref a22), (.ref b1), (.ref o0)]))
  have G29 := (f0_15.ext E22)
  have G30 := (f1_15.ext E22)
  have G31 := (f2_15.ext E22)
  have G32 := (f3_15.ext E22)
  have G33 := ((an2 G19 Kq15 (allS (ah6 f0_5) (allS (bm7 f4_5) all0))).ext E22)
  have G34 := (f4_15.ext E22)
  refine ag2 X22 hx hZ (y := (⟨z_s2, "append", z_s4⟩ : MethodName)) (z := (⟨z_s2, "append", z_s4⟩ : MethodName)) hown (z_w hw 44 rfl) (z_w hw 45 rfl) (notFace_of_selects (args := #[]) (mvT hZ (z_w hw 47 rfl))) (z_w hw 47 rfl) (z_w hw 46 rfl) (z_w hw 28 rfl) (z_w hw 48 rfl) G29 (bv7 l Z a0 hw [] b1 a22 n b3_1_5 b22 aa0 h22 n0 (Nat.le_trans Z0 K22.1) G29 EA22 G30 G31 G32 FV22 FC22 G33 G34 BV22 ao1 ne7 (Ne22 _ Sw26).1 (Ne22 _ Sw26).2 hnz hn) 1 e22 hml' (argsL := [(.ref a22)]) (rest := [(.ref o0)]) (lenOf ag1 rfl) (hb hby bc4) (fun r28 T28 L28 X28 hQ28 => ?_)
  obtain ⟨b1_6_3_1_28, rfl, Nq28, Kq28, ax0, bf1, f0_28, f1_28, f2_28, f3_28, f4_28⟩ := hQ28
  have N28 := Fr.app N15 Nq28
  have ne35 := z_nc EA22.lt ax0
  have ne36 := z_nc G29.lt ax0
  have ne37 := z_nc BV22.lt ax0
  have ne38 := z_nc G34.lt ax0
  have G39 := (((G8.keep Kq5 (ninS ne2 nin0)).keep Kq15 (ninS ne2 (ninS ne9 nin0))).ext E22)
  have ne40 := z_nc G39.lt ax0
  have G41 := ((G16.keep Kq15).ext E22)
  have ne42 := z_nc G41.lt ax0
  have G43 := ((G20.keep Kq15 (ninS ne4 (ninS ne13 nin0))).ext E22)
  have ne44 := z_nc G43.lt ax0
  have bw2 := Nat.le_trans K22.1 ax0
  have Sw45 := Safe.keep Kq28 (sfS Sw26 sf0) hC.1 Sw27
  have Sw46 := Safe.keep Kq28 (sfS Sw26 sf0) hC.1 Sw26
  have Sw47 := Safe.keep Kq28 (sfS Sw26 sf0) hC.1 (Safe.new ax0)
  have hC := hC.trans (CHr.keep Kq28 (sfS Sw26 sf0) hC.1)
  have K28 := Keep.trans K22 Kq28 (allS (Or.inr ay1) all0)
  show ac0 p e below P (T28.setTop (mkF m 17 #[.val (.ref o0), .val (.ref o1), .unset, .unset, .unset, .unset, .unset, .unset] [(.ref b1), (.ref o0)]))
  have G49 := (an2 G33 Kq28 (allS (ah6 G29) all0))
  refine ag2 X28 hx hZ (y := (⟨z_s2, "toString", "()Ljava/lang/String;"⟩ : MethodName)) (z := (⟨z_s2, "toString", "()Ljava/lang/String;"⟩ : MethodName)) hown (z_w hw 118 rfl) (z_w hw 119 rfl) (notFace_of_selects (args := #[]) (mvT hZ (z_w hw 121 rfl))) (z_w hw 121 rfl) (z_w hw 120 rfl) (z_w hw 28 rfl) (z_w hw 122 rfl) f0_28 (bw7 l Z a0 hw [] b1 n b1_6_3_1_28 aa0 T28.heap n0 (Nat.le_trans Z0 K28.1) f0_28 f1_28 f2_28 f3_28 G49 f4_28 hnz hn) 1 rfl hml' (argsL := []) (rest := [(.ref o0)]) (lenOf ar4 rfl) (hb hby bd4) (fun r48 T48 L48 X48 hQ48 => ?_)
  obtain ⟨b1_48, rfl, Nq48, Kq48, an1, bg8⟩ := hQ48
  have N48 := Fr.app N28 Nq48
  have G50 := (EA22.keep Kq28)
  have ne51 := z_nc G50.lt an1
  have ne52 := z_nc f0_28.lt an1
  have ne53 := z_nc f4_28.lt an1
  have G54 := (BV22.keep Kq28 (ninS (Ne.symm (Ne22 _ Sw26).2) nin0))
  have ne55 := z_nc G54.lt an1
  have G56 := (G34.keep Kq28 (ninS ne7.symm nin0))
  have ne57 := z_nc G56.lt an1
  have G58 := (G39.keep Kq28 (ninS ne2 nin0))
  have ne59 := z_nc G58.lt an1
  have G60 := (G41.keep Kq28)
  have ne61 := z_nc G60.lt an1
  have G62 := (G43.keep Kq28 (ninS ne4 nin0))
  have ne63 := z_nc G62.lt an1
  have cw3 := Nat.le_trans K28.1 an1
  have Sw64 := Safe.keep Kq48 sf0 hC.1 Sw45
  have Sw65 := Safe.keep Kq48 sf0 hC.1 Sw46
  have Sw66 := Safe.keep Kq48 sf0 hC.1 Sw47
  have hC := hC.trans (CHr.keep Kq48 sf0 hC.1)
  have K48 := Keep.trans K28 Kq48 all0
  show ac0 p e below P (T48.setTop (mkF m 20 #[.val (.ref o0), .val (.ref o1), .unset, .unset, .unset, .unset, .unset, .unset] [(.ref b1_48), (.ref o0)]))
  refine af1 X48 hx hZ (y := (⟨"java/util/Objects", "requireNonNull", co1⟩ : MethodName)) hown (z_w hw 159 rfl) (z_w hw 160 rfl) (z_w hw 161 rfl) (z_w hw 162 rfl) (bt7 l Z a0 hw [] o0 b1_48  T48.heap n0 (Nat.le_trans Z0 K48.1) ) 0 rfl hml' (argsL := [(.ref o0), (.ref b1_48)]) (rest := []) (lenOf aw1 rfl) (hb hby be4) (fun r67 T67 L67 X67 hQ67 => ?_)
  obtain ⟨rfl, Nq67, eq67⟩ := hQ67
  have N67 := Fr.app N48 Nq67
  show ac0 p e below P (T67.setTop (mkF m 23 #[.val (.ref o0), .val (.ref o1), .unset, .unset, .unset, .unset, .unset, .unset] [(.ref o0)]))
  refine bs5 X67 hx (hb hby bf4) rfl ?_
  refine ab0 X67 hx (hb hby bg4) rfl rfl ?_
  have G69 := (G58.keep Kq48 nin0)
  refine ap9 X67 hx hZ hown (z_w hw 163 rfl) (z_w hw 164 rfl) (z_w hw 168 rfl) (z_w hw 166 rfl) (z_w hw 167 rfl) (z_w hw 169 rfl) eq67 G69 (g := (mkF m 25 #[.val (.ref o0), .val (.ref o1), .unset, .unset, .unset, .unset, .unset, .unset] [(.ref o0)])) rfl (by rw [hml']; rfl) rfl (hb hby bh4) (by decide) 0 0 (by show 2 * 0 + _ ≤ _; exact Nat.le_of_eq rfl) (by decide) (Nat.le_refl _) (by decide) (by decide) (fun T68 h68 X68 e68 E68 B68 => ?_)
  obtain ⟨b68, g68⟩ : ∃ z, z = T48.heap.size := ⟨_, rfl⟩
  rw [← g68] at B68 ⊢
  have Sw70 := Safe.ext E68 hC.1 Sw64
  have Sw71 := Safe.ext E68 hC.1 Sw65
  have Sw72 := Safe.ext E68 hC.1 Sw66
  have hC := hC.trans (CHr.ext E68 hC.1)
  have G74 := (G50.keep Kq48)
  have ne73 := z_nb G74.lt g68
  have G76 := (f0_28.keep Kq48)
  have ne75 := z_nb G76.lt g68
  have G78 := (f4_28.keep Kq48 nin0)
  have ne77 := z_nb G78.lt g68
  have G80 := (G54.keep Kq48 nin0)
  have ne79 := z_nb G80.lt g68
  have G82 := (G56.keep Kq48 nin0)
  have ne81 := z_nb G82.lt g68
  have ne83 := z_nb G69.lt g68
  have G85 := (G60.keep Kq48)
  have ne84 := z_nb G85.lt g68
  have G87 := (G62.keep Kq48 nin0)
  have ne86 := z_nb G87.lt g68
  have ag3 : n0 ≤ b68 := Nat.le_trans (Nat.le_trans Z0 K48.1) (Nat.le_of_eq g68.symm)
  have an4 : h0.size ≤ b68 := Nat.le_trans K48.1 (Nat.le_of_eq g68.symm)
  have K68 := Keep.ext K48 E68
  have A68 : ag0 Z h68 b68 ([] : List Int32) := B68
  show ac0 p e below P (T68.setTop (mkF m 28 #[.val (.ref o0), .val (.ref o1), .unset, .unset, .unset, .unset, .unset, .unset] [(.ref b68)]))
  obtain ⟨T88, X88, e88, st88⟩ := castY X68 hx hZ hown (z_w hw 170 rfl) e68 (ag0.ins A68) (g := (mkF m 28 #[.val (.ref o0), .val (.ref o1), .unset, .unset, .unset, .unset, .unset, .unset] [(.ref b68)])) rfl rfl (hb hby bi4)
  refine ae1 (fun _ => st88 _) ?_
  show ac0 p e below P (T88.setTop (mkF m 31 #[.val (.ref o0), .val (.ref o1), .unset, .unset, .unset, .unset, .unset, .unset] [(.ref b68)]))
  refine av2 X88 hx (hb hby bj4) rfl (l' := #[.val (.ref o0), .val (.ref o1), .val (.ref b68), .unset, .unset, .unset, .unset, .unset]) rfl ?_
  refine ab0 X88 hx (hb hby bk4) rfl rfl ?_
  refine af1 X88 hx hZ (y := (⟨z_s5, "sort", "([I)V"⟩ : MethodName)) hown (z_w hw 172 rfl) (z_w hw 173 rfl) (z_w hw 112 rfl) (z_w hw 174 rfl) (ex0 l Z a0 hw [] b68  h68 n0 (Nat.le_trans Z0 K68.1) A68 ag3) 0 e88 hml' (argsL := [(.ref b68)]) (rest := []) (lenOf ao9 rfl) (hb hby bl4) (fun r89 T89 L89 X89 hQ89 => ?_)
  obtain ⟨ys89, rfl, Nq89, Kq89, As89, hl89, ha89⟩ := hQ89
  have N89 := Fr.app N67 Nq89
  obtain rfl := b7 hl89
  have Sw90 := Safe.keep Kq89 (sfS (A68.safe (EL := consts_1) hZ.alike) sf0) hC.1 Sw70
  have Sw91 := Safe.keep Kq89 (sfS (A68.safe (EL := consts_1) hZ.alike) sf0) hC.1 Sw71
  have Sw92 := Safe.keep Kq89 (sfS (A68.safe (EL := consts_1) hZ.alike) sf0) hC.1 Sw72
  have hC := hC.trans (CHr.keep Kq89 (sfS (A68.safe (EL := consts_1) hZ.alike) sf0) hC.1)
  have K89 := Keep.trans K68 Kq89 (allS (Or.inr an4) all0)
  show ac0 p e below P (T89.setTop (mkF m 36 #[.val (.ref o0), .val (.ref o1), .val (.ref b68), .unset, .unset, .unset, .unset, .unset] []))
  refine ab0 X89 hx (hb hby bm4) rfl rfl ?_
  refine ah1 X89 hx hZ rfl As89 (z := (0 : Int32)) rfl (hb hby bn4) ?_
  refine ak4 X89 hx (pc' := 80) (hb hby bo4) ((if0 _ _).trans (flt (by decide : ¬ ((0 : Int32) < (0 : Int32)))).2.2.2) ?_
  refine am0 X89 hx (hb hby bp4) (z := (0 : Int32)) rfl ?_
  refine aj2 X89 hx (hb hby bq4) (l' := #[.val (.ref o0), .val (.ref o1), .val (.ref b68), .val (.int (0 : Int32)), .unset, .unset, .unset, .unset]) rfl ?_
  refine ab0 X89 hx (hb hby br4) rfl rfl ?_
  refine ak7 X89 hx (hb hby bs4) rfl (l' := #[.val (.ref o0), .val (.ref o1), .val (.ref b68), .val (.int (0 : Int32)), .val (.ref b68), .unset, .unset, .unset]) rfl ?_
  refine az2 X89 hx (hb hby bt4) rfl rfl ?_
  refine ah1 X89 hx hZ rfl As89 (z := (0 : Int32)) rfl (hb hby bu4) ?_
  refine ai1 X89 hx (hb hby bv4) (l' := #[.val (.ref o0), .val (.ref o1), .val (.ref b68), .val (.int (0 : Int32)), .val (.ref b68), .val (.int (0 : Int32)), .unset, .unset]) rfl ?_
  refine am0 X89 hx (hb hby bw4) (z := (0 : Int32)) rfl ?_
  refine ai1 X89 hx (hb hby bx4) (l' := #[.val (.ref o0), .val (.ref o1), .val (.ref b68), .val (.int (0 : Int32)), .val (.ref b68), .val (.int (0 : Int32)), .val (.int (0 : Int32)), .unset]) rfl ?_
  refine ak0 X89 hx (hb hby ab2) rfl ?_
  refine ak0 X89 hx (hb hby ac2) rfl ?_
  refine au0 X89 hx (pc' := 135) (hb hby ad2) (flt (by decide : ¬ ((0 : Int32) < (0 : Int32)))).2.1 ?_
  refine ae0 X89 hx (hb hby ah3) rfl ?_
  refine ab0 X89 hx (hb hby ai3) rfl rfl ?_
  refine ah1 X89 hx hZ rfl As89 (z := (0 : Int32)) rfl (hb hby aj3) ?_
  refine av0 X89 hx (hb hby ak3) (teq (by decide : (0 : Int32) = (0 : Int32))).2 ?_
  refine ab0 X89 hx (hb hby bk1) rfl rfl ?_
  refine am1 X89 hx (pc' := 150) (hb hby bl1) ?_
  have G93 := (Nat.le_trans (Nat.le_trans (Nat.le_trans (Nat.le_trans hk22 Kq28.1) Kq48.1) E68.1) Kq89.1)
  have hfin : (fun (v : Option Value) (h : Heap) (L : List Loc) => ∃ (br : Addr) (xr : List Int32), v = some (.ref br) ∧ Fr n0 L ∧ Keep h0 h [] ∧ h0.size ≤ br ∧ n0 ≤ br ∧ ag0 Z h br xr ∧ ((xr.length = 0 ↔ ([] : List Int32).length = 0) ∧ xr.length ≤ 4)) (some (.ref b68)) T89.heap _ := ⟨b68, ([] : List Int32), rfl, N89, K89, an4, ag3, As89, ⟨by simp, by simp⟩⟩
  refine ab5 X89 hS G93 rfl hZ hEL hC hx hlk hP rfl rfl hrt (hb hby al3) (by decide) (by decide) ?_
  exact hfin
theorem dy9 (m : MethodId) (o0 : Addr) (o1 : Addr) : entryFrame m #[(.ref o0), (.ref o1)] 8 = mkF m 0 #[.val (.ref o0), .val (.ref o1), .unset, .unset, .unset, .unset, .unset, .unset] [] := by first | (simp [entryFrame, mkF, argsToLocals, Value.category]; done) | rfl
set_option maxRecDepth 65536 in
set_option maxHeartbeats 40000000 in
theorem et1 (l : Launch) (Z : State) (a0 : Array Value) (hw : ∀ d ∈ tables_1, d.before a0 Z = true) (ws : List Jvm.Cond) (o0 : Addr) (o1 : Addr) (n : Nat) (c0 : Int32) (ah0 : Addr) (aa0 : Int32) (h0 : Heap) (n0 : Nat) (Z0 : n0 ≤ h0.size) (E_o1 : Exa Z h0 o1 z_s1) (ac1 : Fld Z h0 o1 z_s1 "value" "[B" (.ref ah0)) (aa1 : Fld Z h0 o1 z_s1 "coder" "B" (.int (0 : Int32))) (af0 : Sta Z h0 z_s1 z_s8 "Z" (.int aa0)) (A_o0 : ag0 Z h0 o0 [c0]) (at0 : ao0 Z h0 ah0 n) (hnz : ¬ (aa0 = (0 : Int32))) (hn : bv2 n) (hn0 : ¬ (c0 < (0 : Int32))) :
    al9 l Z consts_1 (⟨z_s3, "distinct", "([ILjava/lang/String;)[I"⟩ : MethodName) prog_6_method_14_code 8 (some (.array .int)) ws ({ frames := 6, cells := 9, slots := 170, locals := 114 } : Room) #[(.ref o0), (.ref o1)] h0 (fun (v : Option Value) (h : Heap) (L : List Loc) => ∃ (br : Addr) (xr : List Int32), v = some (.ref br) ∧ Fr n0 L ∧ Keep h0 h [] ∧ h0.size ≤ br ∧ n0 ≤ br ∧ ag0 Z h br xr ∧ ((xr.length = 0 ↔ [c0].length = 0) ∧ xr.length ≤ 4)) := by
  refine bo1 (plainFor_of_name an0) ?_
  intro p e s m below meth c s₁ P vm0 k0 hx hby hml hrt hlk hown hnm hZ X0 e0 hS hk hC hP
  have N0 := Fr.nil n0
  have K0 := Keep.refl h0 []
  have hml' : c.maxLocals = 8 := hml
  have hEL := bj7 hw
  refine ar0 (dy9 m o0 o1) ?_
  show ac0 p e below P (s₁.setTop (mkF m 0 #[.val (.ref o0), .val (.ref o1), .unset, .unset, .unset, .unset, .unset, .unset] []))
  refine ab0 X0 hx (hb hby br6) rfl rfl ?_
  obtain ⟨T1, h1, X1, e1, E1, A1, D1, -, st1⟩ := newO X0 hx hZ hown (z_w hw 26 rfl) (z_w hw 27 rfl) (z_w hw 28 rfl) e0 (g := (mkF m 1 #[.val (.ref o0), .val (.ref o1), .unset, .unset, .unset, .unset, .unset, .unset] [(.ref o0)])) rfl (hb hby bs6) (by decide) (by decide)
  obtain ⟨b1, g1⟩ : ∃ z, z = h0.size := ⟨_, rfl⟩
  rw [← g1] at A1 D1 st1
  have hC := hC.trans (CHr.ext E1 hC.1)
  have ne2 := z_nb A_o0.lt g1
  have ne3 := z_nb E_o1.lt g1
  have ne4 := z_nb at0.lt g1
  have ao1 : n0 ≤ b1 := Nat.le_trans (Nat.le_trans Z0 K0.1) (Nat.le_of_eq g1.symm)
  have ay1 : h0.size ≤ b1 := Nat.le_trans K0.1 (Nat.le_of_eq g1.symm)
  have K1 := Keep.ext K0 E1
  have at4 : Fld Z h1 b1 z_s0 "value" "[B" .null := D1 (Or.inl (z_w hw 41 rfl)) (ty := (.array .byte)) (by decide)
  have au4 : Fld Z h1 b1 z_s0 "coder" "B" (.int (0 : Int32)) := D1 (Or.inl (z_w hw 43 rfl)) (ty := .byte) (by decide)
  have ax8 : Fld Z h1 b1 z_s0 "count" "I" (.int (0 : Int32)) := D1 (Or.inl (z_w hw 68 rfl)) (ty := .int) (by decide)
  refine ae1 (fun _ => st1 _) ?_
  show ac0 p e below P (T1.setTop (mkF m 4 #[.val (.ref o0), .val (.ref o1), .unset, .unset, .unset, .unset, .unset, .unset] [(.ref b1), (.ref o0)]))
  refine an6 X1 hx (hb hby bt6) rfl ?_
  have G6 := (af0.ext E1)
  refine ai9 X1 hx hZ (y := (⟨z_s2, "<init>", "()V"⟩ : MethodName)) hown (z_w hw 29 rfl) (z_w hw 30 rfl) (z_w hw 28 rfl) (z_w hw 31 rfl) (bn7 l Z a0 hw [] b1 aa0 h1 n0 (Nat.le_trans Z0 K1.1) A1 at4 au4 ax8 G6 ao1 hnz) 2 e1 hml' (a := b1) (argsL := []) (rest := [(.ref b1), (.ref o0)]) (lenOf bj1 rfl) (hb hby bu6) (fun r5 T5 L5 X5 hQ5 => ?_)
  obtain ⟨b3_1_5, rfl, Nq5, Kq5, af2, ay8, f0_5, f1_5, f2_5, f3_5, f4_5⟩ := hQ5
  have N5 := Fr.app N0 Nq5
  have ne7 := z_nc A1.lt af2
  have G8 := (A_o0.ext E1)
  have ne9 := z_nc G8.lt af2
  have G10 := (E_o1.ext E1)
  have ne11 := z_nc G10.lt af2
  have G12 := (at0.ext E1)
  have ne13 := z_nc G12.lt af2
  have ak9 := Nat.le_trans K1.1 af2
  have Sw14 := Safe.keep Kq5 (sfS (Safe.exa (EL := consts_1) hZ.alike A1 (by decide) (by decide)) sf0) hC.1 (Safe.new af2)
  have hC := hC.trans (CHr.keep Kq5 (sfS (Safe.exa (EL := consts_1) hZ.alike A1 (by decide) (by decide)) sf0) hC.1)
  have K5 := Keep.trans K1 Kq5 (allS (Or.inr ay1) all0)
  show ac0 p e below P (T5.setTop (mkF m 8 #[.val (.ref o0), .val (.ref o1), .unset, .unset, .unset, .unset, .unset, .unset] [(.ref b1), (.ref o0)]))
  refine ab0 X5 hx (hb hby bv6) rfl rfl ?_
  have G16 := (G10.keep Kq5)
  have G17 := ((ac1.ext E1).keep Kq5 (ninS ne3 nin0))
  have G18 := ((aa1.ext E1).keep Kq5 (ninS ne3 nin0))
  have G19 := (an2 G6 Kq5 (allS (ah6 A1) all0))
  have G20 := (G12.keep Kq5 (ninS ne4 nin0))
  refine ag2 X5 hx hZ (y := (⟨z_s2, "append", z_s4⟩ : MethodName)) (z := (⟨z_s2, "append", z_s4⟩ : MethodName)) hown (z_w hw 44 rfl) (z_w hw 45 rfl) (notFace_of_selects (args := #[]) (mvT hZ (z_w hw 47 rfl))) (z_w hw 47 rfl) (z_w hw 46 rfl) (z_w hw 28 rfl) (z_w hw 48 rfl) f0_5 (bu7 l Z a0 hw [] b1 o1 n b3_1_5 ah0 aa0 T5.heap n0 (Nat.le_trans Z0 K5.1) f0_5 G16 f1_5 f2_5 f3_5 G17 G18 G19 f4_5 G20 ao1 ay8 ne7 ne3.symm ne4.symm ne11.symm ne13.symm hnz hn) 1 rfl hml' (argsL := [(.ref o1)]) (rest := [(.ref o0)]) (lenOf ag1 rfl) (hb hby bw6) (fun r15 T15 L15 X15 hQ15 => ?_)
  obtain ⟨rfl, Nq15, Kq15, f0_15, f1_15, f2_15, f3_15, f4_15⟩ := hQ15
  have N15 := Fr.app N5 Nq15
  have Sw21 := Safe.keep Kq15 (sfS (Safe.exa (EL := consts_1) hZ.alike f0_5 (by decide) (by decide)) (sfS Sw14 sf0)) hC.1 Sw14
  have hC := hC.trans (CHr.keep Kq15 (sfS (Safe.exa (EL := consts_1) hZ.alike f0_5 (by decide) (by decide)) (sfS Sw14 sf0)) hC.1)
  have K15 := Keep.trans K5 Kq15 (allS (Or.inr ay1) (allS (Or.inr ak9) all0))
  show ac0 p e below P (T15.setTop (mkF m 12 #[.val (.ref o0), .val (.ref o1), .unset, .unset, .unset, .unset, .unset, .unset] [(.ref b1), (.ref o0)]))
  have G23 := (Nat.le_trans (Nat.le_trans (Nat.le_trans hk E1.1) Kq5.1) Kq15.1)
  have Sw24 := (Safe.exa (EL := consts_1) hZ.alike f0_15 (by decide) (by decide))
  have Sw25 := Sw21
  obtain ⟨a22, T22, h22, k22, b22, c22, X22, e22, E22, hS, hk22, hZ, hown, EA22, FC22, FV22, VV22, -, -, hC22, Li22, Ne22, st22⟩ := ldcCH X15 hx hZ hown (z_w hw 94 rfl) (bz2 hw) rfl hS G23 hEL (List.mem_of_getElem? (i := 5) rfl) hC.1 (vs := [(.int (32 : Int32)), (.int (109 : Int32)), (.int (117 : Int32)), (.int (115 : Int32)), (.int (116 : Int32)), (.int (32 : Int32)), (.int (110 : Int32)), (.int (111 : Int32)), (.int (116 : Int32)), (.int (32 : Int32)), (.int (98 : Int32)), (.int (101 : Int32)), (.int (32 : Int32)), (.int (110 : Int32)), (.int (117 : Int32)), (.int (108 : Int32)), (.int (108 : Int32))]) (z := (17 : Int32)) ⟨by decide, by rfl⟩ (by decide) (by decide) (g := (mkF m 12 #[.val (.ref o0), .val (.ref o1), .unset, .unset, .unset, .unset, .unset, .unset] [(.ref b1), (.ref o0)])) rfl (hb hby bb4) (n := 68) (by decide) (by decide) (by decide) (by decide)
  have Sw26 := hC22.safe f0_15.lt Sw24
  have Sw27 := hC22.safe f4_15.lt Sw25
  have hC := hC.trans hC22
  have K22 := Keep.ext K15 E22
  have BV22 : ao0 Z h22 b22 17 := ao0.ofV VV22 (by decide) (by rfl)
  refine ae1 (fun _ => st22 _) ?_
  show ac0 p e below P (T22.setTop (mkF m 14 #[.val (.ref o0), .val (.ref o1), .unset, .unset, .unset, .unset, .unset, .unset] [(.ref a22), (.ref b1), (.ref o0)]))
  have G29 := (f0_15.ext E22)
  have G30 := (f1_15.ext E22)
  have G31 := (f2_15.ext E22)
  have G32 := (f3_15.ext E22)
  have G33 := ((an2 G19 Kq15 (allS (ah6 f0_5) (allS (bm7 f4_5) all0))).ext E22)
  have G34 := (f4_15.ext E22)
  refine ag2 X22 hx hZ (y := (⟨z_s2, "append", z_s4⟩ : MethodName)) (z := (⟨z_s2, "append", z_s4⟩ : MethodName)) hown (z_w hw 44 rfl) (z_w hw 45 rfl) (notFace_of_selects (args := #[]) (mvT hZ (z_w hw 47 rfl))) (z_w hw 47 rfl) (z_w hw 46 rfl) (z_w hw 28 rfl) (z_w hw 48 rfl) G29 (bv7 l Z a0 hw [] b1 a22 n b3_1_5 b22 aa0 h22 n0 (Nat.le_trans Z0 K22.1) G29 EA22 G30 G31 G32 FV22 FC22 G33 G34 BV22 ao1 ne7 (Ne22 _ Sw26).1 (Ne22 _ Sw26).2 hnz hn) 1 e22 hml' (argsL := [(.ref a22)]) (rest := [(.ref o0)]) (lenOf ag1 rfl) (hb hby bc4) (fun r28 T28 L28 X28 hQ28 => ?_)
  obtain ⟨b1_6_3_1_28, rfl, Nq28, Kq28, ax0, bf1, f0_28, f1_28, f2_28, f3_28, f4_28⟩ := hQ28
  have N28 := Fr.app N15 Nq28
  have ne35 := z_nc EA22.lt ax0
  have ne36 := z_nc G29.lt ax0
  have ne37 := z_nc BV22.lt ax0
  have ne38 := z_nc G34.lt ax0
  have G39 := (((G8.keep Kq5 (ninS ne2 nin0)).keep Kq15 (ninS ne2 (ninS ne9 nin0))).ext E22)
  have ne40 := z_nc G39.lt ax0
  have G41 := ((G16.keep Kq15).ext E22)
  have ne42 := z_nc G41.lt ax0
  have G43 := ((G20.keep Kq15 (ninS ne4 (ninS ne13 nin0))).ext E22)
  have ne44 := z_nc G43.lt ax0
  have bw2 := Nat.le_trans K22.1 ax0
  have Sw45 := Safe.keep Kq28 (sfS Sw26 sf0) hC.1 Sw27
  have Sw46 := Safe.keep Kq28 (sfS Sw26 sf0) hC.1 Sw26
  have Sw47 := Safe.keep Kq28 (sfS Sw26 sf0) hC.1 (Safe.new ax0)
  have hC := hC.trans (CHr.keep Kq28 (sfS Sw26 sf0) hC.1)
  have K28 := Keep.trans K22 Kq28 (allS (Or.inr ay1) all0)
  show ac0 p e below P (T28.setTop (mkF m 17 #[.val (.ref o0), .val (.ref o1), .unset, .unset, .unset, .unset, .unset, .unset] [(.ref b1), (.ref o0)]))
  have G49 := (an2 G33 Kq28 (allS (ah6 G29) all0))
  refine ag2 X28 hx hZ (y := (⟨z_s2, "toString", "()Ljava/lang/String;"⟩ : MethodName)) (z := (⟨z_s2, "toString", "()Ljava/lang/String;"⟩ : MethodName)) hown (z_w hw 118 rfl) (z_w hw 119 rfl) (notFace_of_selects (args := #[]) (mvT hZ (z_w hw 121 rfl))) (z_w hw 121 rfl) (z_w hw 120 rfl) (z_w hw 28 rfl) (z_w hw 122 rfl) f0_28 (bw7 l Z a0 hw [] b1 n b1_6_3_1_28 aa0 T28.heap n0 (Nat.le_trans Z0 K28.1) f0_28 f1_28 f2_28 f3_28 G49 f4_28 hnz hn) 1 rfl hml' (argsL := []) (rest := [(.ref o0)]) (lenOf ar4 rfl) (hb hby bd4) (fun r48 T48 L48 X48 hQ48 => ?_)
  obtain ⟨b1_48, rfl, Nq48, Kq48, an1, bg8⟩ := hQ48
  have N48 := Fr.app N28 Nq48
  have G50 := (EA22.keep Kq28)
  have ne51 := z_nc G50.lt an1
  have ne52 := z_nc f0_28.lt an1
  have ne53 := z_nc f4_28.lt an1
  have G54 := (BV22.keep Kq28 (ninS (Ne.symm (Ne22 _ Sw26).2) nin0))
  have ne55 := z_nc G54.lt an1
  have G56 := (G34.keep Kq28 (ninS ne7.symm nin0))
  have ne57 := z_nc G56.lt an1
  have G58 := (G39.keep Kq28 (ninS ne2 nin0))
  have ne59 := z_nc G58.lt an1
  have G60 := (G41.keep Kq28)
  have ne61 := z_nc G60.lt an1
  have G62 := (G43.keep Kq28 (ninS ne4 nin0))
  have ne63 := z_nc G62.lt an1
  have cw3 := Nat.le_trans K28.1 an1
  have Sw64 := Safe.keep Kq48 sf0 hC.1 Sw45
  have Sw65 := Safe.keep Kq48 sf0 hC.1 Sw46
  have Sw66 := Safe.keep Kq48 sf0 hC.1 Sw47
  have hC := hC.trans (CHr.keep Kq48 sf0 hC.1)
  have K48 := Keep.trans K28 Kq48 all0
  show ac0 p e below P (T48.setTop (mkF m 20 #[.val (.ref o0), .val (.ref o1), .unset, .unset, .unset, .unset, .unset, .unset] [(.ref b1_48), (.ref o0)]))
  refine af1 X48 hx hZ (y := (⟨"java/util/Objects", "requireNonNull", co1⟩ : MethodName)) hown (z_w hw 159 rfl) (z_w hw 160 rfl) (z_w hw 161 rfl) (z_w hw 162 rfl) (bt7 l Z a0 hw [] o0 b1_48  T48.heap n0 (Nat.le_trans Z0 K48.1) ) 0 rfl hml' (argsL := [(.ref o0), (.ref b1_48)]) (rest := []) (lenOf aw1 rfl) (hb hby be4) (fun r67 T67 L67 X67 hQ67 => ?_)
  obtain ⟨rfl, Nq67, eq67⟩ := hQ67
  have N67 := Fr.app N48 Nq67
  show ac0 p e below P (T67.setTop (mkF m 23 #[.val (.ref o0), .val (.ref o1), .unset, .unset, .unset, .unset, .unset, .unset] [(.ref o0)]))
  refine bs5 X67 hx (hb hby bf4) rfl ?_
  refine ab0 X67 hx (hb hby bg4) rfl rfl ?_
  have G69 := (G58.keep Kq48 nin0)
  refine ap9 X67 hx hZ hown (z_w hw 163 rfl) (z_w hw 164 rfl) (z_w hw 168 rfl) (z_w hw 166 rfl) (z_w hw 167 rfl) (z_w hw 169 rfl) eq67 G69 (g := (mkF m 25 #[.val (.ref o0), .val (.ref o1), .unset, .unset, .unset, .unset, .unset, .unset] [(.ref o0)])) rfl (by rw [hml']; rfl) rfl (hb hby bh4) (by decide) 0 1 (by show 2 * 0 + _ ≤ _; exact Nat.le_of_eq rfl) (by decide) (Nat.le_refl _) (by decide) (by decide) (fun T68 h68 X68 e68 E68 B68 => ?_)
  obtain ⟨b68, g68⟩ : ∃ z, z = T48.heap.size := ⟨_, rfl⟩
  rw [← g68] at B68 ⊢
  have Sw70 := Safe.ext E68 hC.1 Sw64
  have Sw71 := Safe.ext E68 hC.1 Sw65
  have Sw72 := Safe.ext E68 hC.1 Sw66
  have hC := hC.trans (CHr.ext E68 hC.1)
  have G74 := (G50.keep Kq48)
  have ne73 := z_nb G74.lt g68
  have G76 := (f0_28.keep Kq48)
  have ne75 := z_nb G76.lt g68
  have G78 := (f4_28.keep Kq48 nin0)
  have ne77 := z_nb G78.lt g68
  have G80 := (G54.keep Kq48 nin0)
  have ne79 := z_nb G80.lt g68
  have G82 := (G56.keep Kq48 nin0)
  have ne81 := z_nb G82.lt g68
  have ne83 := z_nb G69.lt g68
  have G85 := (G60.keep Kq48)
  have ne84 := z_nb G85.lt g68
  have G87 := (G62.keep Kq48 nin0)
  have ne86 := z_nb G87.lt g68
  have ag3 : n0 ≤ b68 := Nat.le_trans (Nat.le_trans Z0 K48.1) (Nat.le_of_eq g68.symm)
  have an4 : h0.size ≤ b68 := Nat.le_trans K48.1 (Nat.le_of_eq g68.symm)
  have K68 := Keep.ext K48 E68
  have A68 : ag0 Z h68 b68 [c0] := B68
  show ac0 p e below P (T68.setTop (mkF m 28 #[.val (.ref o0), .val (.ref o1), .unset, .unset, .unset, .unset, .unset, .unset] [(.ref b68)]))
  obtain ⟨T88, X88, e88, st88⟩ := castY X68 hx hZ hown (z_w hw 170 rfl) e68 (ag0.ins A68) (g := (mkF m 28 #[.val (.ref o0), .val (.ref o1), .unset, .unset, .unset, .unset, .unset, .unset] [(.ref b68)])) rfl rfl (hb hby bi4)
  refine ae1 (fun _ => st88 _) ?_
  show ac0 p e below P (T88.setTop (mkF m 31 #[.val (.ref o0), .val (.ref o1), .unset, .unset, .unset, .unset, .unset, .unset] [(.ref b68)]))
  refine av2 X88 hx (hb hby bj4) rfl (l' := #[.val (.ref o0), .val (.ref o1), .val (.ref b68), .unset, .unset, .unset, .unset, .unset]) rfl ?_
  refine ab0 X88 hx (hb hby bk4) rfl rfl ?_
  refine af1 X88 hx hZ (y := (⟨z_s5, "sort", "([I)V"⟩ : MethodName)) hown (z_w hw 172 rfl) (z_w hw 173 rfl) (z_w hw 112 rfl) (z_w hw 174 rfl) (eb1 l Z a0 hw [] b68 c0 h68 n0 (Nat.le_trans Z0 K68.1) A68 ag3 hn0) 0 e88 hml' (argsL := [(.ref b68)]) (rest := []) (lenOf ao9 rfl) (hb hby bl4) (fun r89 T89 L89 X89 hQ89 => ?_)
  obtain ⟨ys89, rfl, Nq89, Kq89, As89, hl89, ha89⟩ := hQ89
  have N89 := Fr.app N67 Nq89
  obtain ⟨y0_89, rfl⟩ := ba7 hl89
  have Sw90 := Safe.keep Kq89 (sfS (A68.safe (EL := consts_1) hZ.alike) sf0) hC.1 Sw70
  have Sw91 := Safe.keep Kq89 (sfS (A68.safe (EL := consts_1) hZ.alike) sf0) hC.1 Sw71
  have Sw92 := Safe.keep Kq89 (sfS (A68.safe (EL := consts_1) hZ.alike) sf0) hC.1 Sw72
  have hC := hC.trans (CHr.keep Kq89 (sfS (A68.safe (EL := consts_1) hZ.alike) sf0) hC.1)
  have K89 := Keep.trans K68 Kq89 (allS (Or.inr an4) all0)
  have ba5 : ¬ y0_89 < (0 : Int32) := ha89 _ (by simp)
  show ac0 p e below P (T89.setTop (mkF m 36 #[.val (.ref o0), .val (.ref o1), .val (.ref b68), .unset, .unset, .unset, .unset, .unset] []))
  refine ab0 X89 hx (hb hby bm4) rfl rfl ?_
  refine ah1 X89 hx hZ rfl As89 (z := (1 : Int32)) rfl (hb hby bn4) ?_
  refine aa3 X89 hx (hb hby bo4) ((if0 _ _).trans (tlt (by decide : (0 : Int32) < (1 : Int32))).2.2.2) ?_
  refine ab0 X89 hx (hb hby be7) rfl rfl ?_
  refine am0 X89 hx (hb hby bf7) (z := (0 : Int32)) rfl ?_
  refine al1 X89 hx hZ rfl As89 (j := (0 : Int32)) (v := y0_89) (i := 0) (by decide) rfl (hb hby bg7) ?_
  have hd93 : ¬ (y0_89 < (0 : Int32)) := by exact ba5
  refine ak4 X89 hx (pc' := 80) (hb hby bh7) ((if0 _ _).trans (flt hd93).2.1) ?_
  refine am0 X89 hx (hb hby bp4) (z := (0 : Int32)) rfl ?_
  refine aj2 X89 hx (hb hby bq4) (l' := #[.val (.ref o0), .val (.ref o1), .val (.ref b68), .val (.int (0 : Int32)), .unset, .unset, .unset, .unset]) rfl ?_
  refine ab0 X89 hx (hb hby br4) rfl rfl ?_
  refine ak7 X89 hx (hb hby bs4) rfl (l' := #[.val (.ref o0), .val (.ref o1), .val (.ref b68), .val (.int (0 : Int32)), .val (.ref b68), .unset, .unset, .unset]) rfl ?_
  refine az2 X89 hx (hb hby bt4) rfl rfl ?_
  refine ah1 X89 hx hZ rfl As89 (z := (1 : Int32)) rfl (hb hby bu4) ?_
  refine ai1 X89 hx (hb hby bv4) (l' := #[.val (.ref o0), .val (.ref o1), .val (.ref b68), .val (.int (0 : Int32)), .val (.ref b68), .val (.int (1 : Int32)), .unset, .unset]) rfl ?_
  refine am0 X89 hx (hb hby bw4) (z := (0 : Int32)) rfl ?_
  refine ai1 X89 hx (hb hby bx4) (l' := #[.val (.ref o0), .val (.ref o1), .val (.ref b68), .val (.int (0 : Int32)), .val (.ref b68), .val (.int (1 : Int32)), .val (.int (0 : Int32)), .unset]) rfl ?_
  refine ak0 X89 hx (hb hby ab2) rfl ?_
  refine ak0 X89 hx (hb hby ac2) rfl ?_
  refine av0 X89 hx (hb hby ad2) (tlt (by decide : (0 : Int32) < (1 : Int32))).2.1 ?_
  refine az2 X89 hx (hb hby at3) rfl rfl ?_
  refine ak0 X89 hx (hb hby au3) rfl ?_
  refine al1 X89 hx hZ rfl As89 (j := (0 : Int32)) (v := y0_89) (i := 0) (by decide) rfl (hb hby av3) ?_
  refine ai1 X89 hx (hb hby aw3) (l' := #[.val (.ref o0), .val (.ref o1), .val (.ref b68), .val (.int (0 : Int32)), .val (.ref b68), .val (.int (1 : Int32)), .val (.int (0 : Int32)), .val (.int y0_89)]) rfl ?_
  refine ae0 X89 hx (hb hby ax3) rfl ?_
  refine ak4 X89 hx (pc' := 121) (hb hby ay3) ((if0 _ _).trans (teq (by decide : (0 : Int32) = (0 : Int32))).1) ?_
  refine ab0 X89 hx (hb hby az3) rfl rfl ?_
  refine ae0 X89 hx (hb hby aa4) rfl ?_
  refine aq1 X89 hx (hb hby ab4) rfl (l' := #[.val (.ref o0), .val (.ref o1), .val (.ref b68), .val (.int (1 : Int32)), .val (.ref b68), .val (.int (1 : Int32)), .val (.int (0 : Int32)), .val (.int y0_89)]) rfl ?_
  refine ak0 X89 hx (hb hby ac4) rfl ?_
  refine ae2 X89 hx hZ rfl As89 (j := (0 : Int32)) (v := y0_89) (i := 0) (by decide) (by show (0 : Nat) < 1; decide) (hb hby ad4) (fun T94 h94 X94 e94 W94 B94 => ?_)
  have A94 : ag0 Z h94 b68 [y0_89] := B94
  have Sf94 := (As89.safe (EL := consts_1) hZ.alike)
  have Sw95 := Safe.wr W94 Sf94 hC.1 Sw90
  have Sw96 := Safe.wr W94 Sf94 hC.1 Sw91
  have Sw97 := Safe.wr W94 Sf94 hC.1 Sw92
  have hC := hC.trans (CHr.wr W94 Sf94 hC.1)
  have N94 := Fr.snoc X94 N89 ag3
  have K94 := Keep.wr K89 W94 (Or.inr an4)
  refine aq1 X94 hx (hb hby ak2) rfl (l' := #[.val (.ref o0), .val (.ref o1), .val (.ref b68), .val (.int (1 : Int32)), .val (.ref b68), .val (.int (1 : Int32)), .val (.int (1 : Int32)), .val (.int y0_89)]) rfl ?_
  refine am1 X94 hx (pc' := 93) (hb hby al2) ?_
  refine ak0 X94 hx (hb hby ab2) rfl ?_
  refine ak0 X94 hx (hb hby ac2) rfl ?_
  refine au0 X94 hx (pc' := 135) (hb hby ad2) (flt (by decide : ¬ ((1 : Int32) < (1 : Int32)))).2.1 ?_
  refine ae0 X94 hx (hb hby ah3) rfl ?_
  refine ab0 X94 hx (hb hby ai3) rfl rfl ?_
  refine ah1 X94 hx hZ e94 A94 (z := (1 : Int32)) rfl (hb hby aj3) ?_
  refine av0 X94 hx (hb hby ak3) (teq (by decide : (1 : Int32) = (1 : Int32))).2 ?_
  refine ab0 X94 hx (hb hby bk1) rfl rfl ?_
  refine am1 X94 hx (pc' := 150) (hb hby bl1) ?_
  have G98 := (Nat.le_trans (Nat.le_trans (Nat.le_trans (Nat.le_trans (Nat.le_trans hk22 Kq28.1) Kq48.1) E68.1) Kq89.1) (Keep.of_wr W94).1)
  have hfin : (fun (v : Option Value) (h : Heap) (L : List Loc) => ∃ (br : Addr) (xr : List Int32), v = some (.ref br) ∧ Fr n0 L ∧ Keep h0 h [] ∧ h0.size ≤ br ∧ n0 ≤ br ∧ ag0 Z h br xr ∧ ((xr.length = 0 ↔ [c0].length = 0) ∧ xr.length ≤ 4)) (some (.ref b68)) h94 _ := ⟨b68, [y0_89], rfl, N94, K94, an4, ag3, A94, ⟨by simp, by simp⟩⟩
  refine ab5 X94 hS G98 e94 hZ hEL hC hx hlk hP rfl rfl hrt (hb hby al3) (by decide) (by decide) ?_
  rw [e94]; exact hfin
theorem dz9 (m : MethodId) (o0 : Addr) (o1 : Addr) : entryFrame m #[(.ref o0), (.ref o1)] 8 = mkF m 0 #[.val (.ref o0), .val (.ref o1), .unset, .unset, .unset, .unset, .unset, .unset] [] := by first | (simp [entryFrame, mkF, argsToLocals, Value.category]; done) | rfl
set_option maxRecDepth 65536 in
set_option maxHeartbeats 40000000 in
theorem eu1 (l : Launch) (Z : State) (a0 : Array Value) (hw : ∀ d ∈ tables_1, d.before a0 Z = true) (ws : List Jvm.Cond) (o0 : Addr) (o1 : Addr) (n : Nat) (c0 : Int32) (c1 : Int32) (ah0 : Addr) (aa0 : Int32) (h0 : Heap) (n0 : Nat) (Z0 : n0 ≤ h0.size) (E_o1 : Exa Z h0 o1 z_s1) (ac1 : Fld Z h0 o1 z_s1 "value" "[B" (.ref ah0)) (aa1 : Fld Z h0 o1 z_s1 "coder" "B" (.int (0 : Int32))) (af0 : Sta Z h0 z_s1 z_s8 "Z" (.int aa0)) (A_o0 : ag0 Z h0 o0 [c0, c1]) (at0 : ao0 Z h0 ah0 n) (hnz : ¬ (aa0 = (0 : Int32))) (hn : bv2 n) (hn0 : ¬ (c0 < (0 : Int32))) (hn1 : ¬ (c1 < (0 : Int32))) :
    al9 l Z consts_1 (⟨z_s3, "distinct", "([ILjava/lang/String;)[I"⟩ : MethodName) prog_6_method_14_code 8 (some (.array .int)) ws ({ frames := 6, cells := 9, slots := 170, locals := 114 } : Room) #[(.ref o0), (.ref o1)] h0 (fun (v : Option Value) (h : Heap) (L : List Loc) => ∃ (br : Addr) (xr : List Int32), v = some (.ref br) ∧ Fr n0 L ∧ Keep h0 h [] ∧ h0.size ≤ br ∧ n0 ≤ br ∧ ag0 Z h br xr ∧ ((xr.length = 0 ↔ [c0, c1].length = 0) ∧ xr.length ≤ 4)) := by
  refine bo1 (plainFor_of_name an0) ?_
  intro p e s m below meth c s₁ P vm0 k0 hx hby hml hrt hlk hown hnm hZ X0 e0 hS hk hC hP
  have N0 := Fr.nil n0
  have K0 := Keep.refl h0 []
  have hml' : c.maxLocals = 8 := hml
  have hEL := bj7 hw
  refine ar0 (dz9 m o0 o1) ?_
  show ac0 p e below P (s₁.setTop (mkF m 0 #[.val (.ref o0), .val (.ref o1), .unset, .unset, .unset, .unset, .unset, .unset] []))
  refine ab0 X0 hx (hb hby br6) rfl rfl ?_
  obtain ⟨T1, h1, X1, e1, E1, A1, D1, -, st1⟩ := newO X0 hx hZ hown (z_w hw 26 rfl) (z_w hw 27 rfl) (z_w hw 28 rfl) e0 (g := (mkF m 1 #[.val (.ref o0), .val (.ref o1), .unset, .unset, .unset, .unset, .unset, .unset] [(.ref o0)])) rfl (hb hby bs6) (by decide) (by decide)
  obtain ⟨b1, g1⟩ : ∃ z, z = h0.size := ⟨_, rfl⟩
  rw [← g1] at A1 D1 st1
  have hC := hC.trans (CHr.ext E1 hC.1)
  have ne2 := z_nb A_o0.lt g1
  have ne3 := z_nb E_o1.lt g1
  have ne4 := z_nb at0.lt g1
  have ao1 : n0 ≤ b1 := Nat.le_trans (Nat.le_trans Z0 K0.1) (Nat.le_of_eq g1.symm)
  have ay1 : h0.size ≤ b1 := Nat.le_trans K0.1 (Nat.le_of_eq g1.symm)
  have K1 := Keep.ext K0 E1
  have at4 : Fld Z h1 b1 z_s0 "value" "[B" .null := D1 (Or.inl (z_w hw 41 rfl)) (ty := (.array .byte)) (by decide)
  have au4 : Fld Z h1 b1 z_s0 "coder" "B" (.int (0 : Int32)) := D1 (Or.inl (z_w hw 43 rfl)) (ty := .byte) (by decide)
  have ax8 : Fld Z h1 b1 z_s0 "count" "I" (.int (0 : Int32)) := D1 (Or.inl (z_w hw 68 rfl)) (ty := .int) (by decide)
  refine ae1 (fun _ => st1 _) ?_
  show ac0 p e below P (T1.setTop (mkF m 4 #[.val (.ref o0), .val (.ref o1), .unset, .unset, .unset, .unset, .unset, .unset] [(.ref b1), (.ref o0)]))
  refine an6 X1 hx (hb hby bt6) rfl ?_
  have G6 := (af0.ext E1)
  refine ai9 X1 hx hZ (y := (⟨z_s2, "<init>", "()V"⟩ : MethodName)) hown (z_w hw 29 rfl) (z_w hw 30 rfl) (z_w hw 28 rfl) (z_w hw 31 rfl) (bn7 l Z a0 hw [] b1 aa0 h1 n0 (Nat.le_trans Z0 K1.1) A1 at4 au4 ax8 G6 ao1 hnz) 2 e1 hml' (a := b1) (argsL := []) (rest := [(.ref b1), (.ref o0)]) (lenOf bj1 rfl) (hb hby bu6) (fun r5 T5 L5 X5 hQ5 => ?_)
  obtain ⟨b3_1_5, rfl, Nq5, Kq5, af2, ay8, f0_5, f1_5, f2_5, f3_5, f4_5⟩ := hQ5
  have N5 := Fr.app N0 Nq5
  have ne7 := z_nc A1.lt af2
  have G8 := (A_o0.ext E1)
  have ne9 := z_nc G8.lt af2
  have G10 := (E_o1.ext E1)
  have ne11 := z_nc G10.lt af2
  have G12 := (at0.ext E1)
  have ne13 := z_nc G12.lt af2
  have ak9 := Nat.le_trans K1.1 af2
  have Sw14 := Safe.keep Kq5 (sfS (Safe.exa (EL := consts_1) hZ.alike A1 (by decide) (by decide)) sf0) hC.1 (Safe.new af2)
  have hC := hC.trans (CHr.keep Kq5 (sfS (Safe.exa (EL := consts_1) hZ.alike A1 (by decide) (by decide)) sf0) hC.1)
  have K5 := Keep.trans K1 Kq5 (allS (Or.inr ay1) all0)
  show ac0 p e below P (T5.setTop (mkF m 8 #[.val (.ref o0), .val (.ref o1), .unset, .unset, .unset, .unset, .unset, .unset] [(.ref b1), (.ref o0)]))
  refine ab0 X5 hx (hb hby bv6) rfl rfl ?_
  have G16 := (G10.keep Kq5)
  have G17 := ((ac1.ext E1).keep Kq5 (ninS ne3 nin0))
  have G18 := ((aa1.ext E1).keep Kq5 (ninS ne3 nin0))
  have G19 := (an2 G6 Kq5 (allS (ah6 A1) all0))
  have G20 := (G12.keep Kq5 (ninS ne4 nin0))
  refine ag2 X5 hx hZ (y := (⟨z_s2, "append", z_s4⟩ : MethodName)) (z := (⟨z_s2, "append", z_s4⟩ : MethodName)) hown (z_w hw 44 rfl) (z_w hw 45 rfl) (notFace_of_selects (args := #[]) (mvT hZ (z_w hw 47 rfl))) (z_w hw 47 rfl) (z_w hw 46 rfl) (z_w hw 28 rfl) (z_w hw 48 rfl) f0_5 (bu7 l Z a0 hw [] b1 o1 n b3_1_5 ah0 aa0 T5.heap n0 (Nat.le_trans Z0 K5.1) f0_5 G16 f1_5 f2_5 f3_5 G17 G18 G19 f4_5 G20 ao1 ay8 ne7 ne3.symm ne4.symm ne11.symm ne13.symm hnz hn) 1 rfl hml' (argsL := [(.ref o1)]) (rest := [(.ref o0)]) (lenOf ag1 rfl) (hb hby bw6) (fun r15 T15 L15 X15 hQ15 => ?_)
  obtain ⟨rfl, Nq15, Kq15, f0_15, f1_15, f2_15, f3_15, f4_15⟩ := hQ15
  have N15 := Fr.app N5 Nq15
  have Sw21 := Safe.keep Kq15 (sfS (Safe.exa (EL := consts_1) hZ.alike f0_5 (by decide) (by decide)) (sfS Sw14 sf0)) hC.1 Sw14
  have hC := hC.trans (CHr.keep Kq15 (sfS (Safe.exa (EL := consts_1) hZ.alike f0_5 (by decide) (by decide)) (sfS Sw14 sf0)) hC.1)
  have K15 := Keep.trans K5 Kq15 (allS (Or.inr ay1) (allS (Or.inr ak9) all0))
  show ac0 p e below P (T15.setTop (mkF m 12 #[.val (.ref o0), .val (.ref o1), .unset, .unset, .unset, .unset, .unset, .unset] [(.ref b1), (.ref o0)]))
  have G23 := (Nat.le_trans (Nat.le_trans (Nat.le_trans hk E1.1) Kq5.1) Kq15.1)
  have Sw24 := (Safe.exa (EL := consts_1) hZ.alike f0_15 (by decide) (by decide))
  have Sw25 := Sw21
  obtain ⟨a22, T22, h22, k22, b22, c22, X22, e22, E22, hS, hk22, hZ, hown, EA22, FC22, FV22, VV22, -, -, hC22, Li22, Ne22, st22⟩ := ldcCH X15 hx hZ hown (z_w hw 94 rfl) (bz2 hw) rfl hS G23 hEL (List.mem_of_getElem? (i := 5) rfl) hC.1 (vs := [(.int (32 : Int32)), (.int (109 : Int32)), (.int (117 : Int32)), (.int (115 : Int32)), (.int (116 : Int32)), (.int (32 : Int32)), (.int (110 : Int32)), (.int (111 : Int32)), (.int (116 : Int32)), (.int (32 : Int32)), (.int (98 : Int32)), (.int (101 : Int32)), (.int (32 : Int32)), (.int (110 : Int32)), (.int (117 : Int32)), (.int (108 : Int32)), (.int (108 : Int32))]) (z := (17 : Int32)) ⟨by decide, by rfl⟩ (by decide) (by decide) (g := (mkF m 12 #[.val (.ref o0), .val (.ref o1), .unset, .unset, .unset, .unset, .unset, .unset] [(.ref b1), (.ref o0)])) rfl (hb hby bb4) (n := 68) (by decide) (by decide) (by decide) (by decide)
  have Sw26 := hC22.safe f0_15.lt Sw24
  have Sw27 := hC22.safe f4_15.lt Sw25
  have hC := hC.trans hC22
  have K22 := Keep.ext K15 E22
  have BV22 : ao0 Z h22 b22 17 := ao0.ofV VV22 (by decide) (by rfl)
  refine ae1 (fun _ => st22 _) ?_
  show ac0 p e below P (T22.setTop (mkF m 14 #[.val (.ref o0), .val (.ref o1), .unset, .unset, .unset, .unset, .unset, .unset] [(.ref a22), (.ref b1), (.ref o0)]))
  have G29 := (f0_15.ext E22)
  have G30 := (f1_15.ext E22)
  have G31 := (f2_15.ext E22)
  have G32 := (f3_15.ext E22)
  have G33 := ((an2 G19 Kq15 (allS (ah6 f0_5) (allS (bm7 f4_5) all0))).ext E22)
  have G34 := (f4_15.ext E22)
  refine ag2 X22 hx hZ (y := (⟨z_s2, "append", z_s4⟩ : MethodName)) (z := (⟨z_s2, "append", z_s4⟩ : MethodName)) hown (z_w hw 44 rfl) (z_w hw 45 rfl) (notFace_of_selects (args := #[]) (mvT hZ (z_w hw 47 rfl))) (z_w hw 47 rfl) (z_w hw 46 rfl) (z_w hw 28 rfl) (z_w hw 48 rfl) G29 (bv7 l Z a0 hw [] b1 a22 n b3_1_5 b22 aa0 h22 n0 (Nat.le_trans Z0 K22.1) G29 EA22 G30 G31 G32 FV22 FC22 G33 G34 BV22 ao1 ne7 (Ne22 _ Sw26).1 (Ne22 _ Sw26).2 hnz hn) 1 e22 hml' (argsL := [(.ref a22)]) (rest := [(.ref o0)]) (lenOf ag1 rfl) (hb hby bc4) (fun r28 T28 L28 X28 hQ28 => ?_)
  obtain ⟨b1_6_3_1_28, rfl, Nq28, Kq28, ax0, bf1, f0_28, f1_28, f2_28, f3_28, f4_28⟩ := hQ28
  have N28 := Fr.app N15 Nq28
  have ne35 := z_nc EA22.lt ax0
  have ne36 := z_nc G29.lt ax0
  have ne37 := z_nc BV22.lt ax0
  have ne38 := z_nc G34.lt ax0
  have G39 := (((G8.keep Kq5 (ninS ne2 nin0)).keep Kq15 (ninS ne2 (ninS ne9 nin0))).ext E22)
  have ne40 := z_nc G39.lt ax0
  have G41 := ((G16.keep Kq15).ext E22)
  have ne42 := z_nc G41.lt ax0
  have G43 := ((G20.keep Kq15 (ninS ne4 (ninS ne13 nin0))).ext E22)
  have ne44 := z_nc G43.lt ax0
  have bw2 := Nat.le_trans K22.1 ax0
  have Sw45 := Safe.keep Kq28 (sfS Sw26 sf0) hC.1 Sw27
  have Sw46 := Safe.keep Kq28 (sfS Sw26 sf0) hC.1 Sw26
  have Sw47 := Safe.keep Kq28 (sfS Sw26 sf0) hC.1 (Safe.new ax0)
  have hC := hC.trans (CHr.keep Kq28 (sfS Sw26 sf0) hC.1)
  have K28 := Keep.trans K22 Kq28 (allS (Or.inr ay1) all0)
  show ac0 p e below P (T28.setTop (mkF m 17 #[.val (.ref o0), .val (.ref o1), .unset, .unset, .unset, .unset, .unset, .unset] [(.ref b1), (.ref o0)]))
  have G49 := (an2 G33 Kq28 (allS (ah6 G29) all0))
  refine ag2 X28 hx hZ (y := (⟨z_s2, "toString", "()Ljava/lang/String;"⟩ : MethodName)) (z := (⟨z_s2, "toString", "()Ljava/lang/String;"⟩ : MethodName)) hown (z_w hw 118 rfl) (z_w hw 119 rfl) (notFace_of_selects (args := #[]) (mvT hZ (z_w hw 121 rfl))) (z_w hw 121 rfl) (z_w hw 120 rfl) (z_w hw 28 rfl) (z_w hw 122 rfl) f0_28 (bw7 l Z a0 hw [] b1 n b1_6_3_1_28 aa0 T28.heap n0 (Nat.le_trans Z0 K28.1) f0_28 f1_28 f2_28 f3_28 G49 f4_28 hnz hn) 1 rfl hml' (argsL := []) (rest := [(.ref o0)]) (lenOf ar4 rfl) (hb hby bd4) (fun r48 T48 L48 X48 hQ48 => ?_)
  obtain ⟨b1_48, rfl, Nq48, Kq48, an1, bg8⟩ := hQ48
  have N48 := Fr.app N28 Nq48
  have G50 := (EA22.keep Kq28)
  have ne51 := z_nc G50.lt an1
  have ne52 := z_nc f0_28.lt an1
  have ne53 := z_nc f4_28.lt an1
  have G54 := (BV22.keep Kq28 (ninS (Ne.symm (Ne22 _ Sw26).2) nin0))
  have ne55 := z_nc G54.lt an1
  have G56 := (G34.keep Kq28 (ninS ne7.symm nin0))
  have ne57 := z_nc G56.lt an1
  have G58 := (G39.keep Kq28 (ninS ne2 nin0))
  have ne59 := z_nc G58.lt an1
  have G60 := (G41.keep Kq28)
  have ne61 := z_nc G60.lt an1
  have G62 := (G43.keep Kq28 (ninS ne4 nin0))
  have ne63 := z_nc G62.lt an1
  have cw3 := Nat.le_trans K28.1 an1
  have Sw64 := Safe.keep Kq48 sf0 hC.1 Sw45
  have Sw65 := Safe.keep Kq48 sf0 hC.1 Sw46
  have Sw66 := Safe.keep Kq48 sf0 hC.1 Sw47
  have hC := hC.trans (CHr.keep Kq48 sf0 hC.1)
  have K48 := Keep.trans K28 Kq48 all0
  show ac0 p e below P (T48.setTop (mkF m 20 #[.val (.ref o0), .val (.ref o1), .unset, .unset, .unset, .unset, .unset, .unset] [(.ref b1_48), (.ref o0)]))
  refine af1 X48 hx hZ (y := (⟨"java/util/Objects", "requireNonNull", co1⟩ : MethodName)) hown (z_w hw 159 rfl) (z_w hw 160 rfl) (z_w hw 161 rfl) (z_w hw 162 rfl) (bt7 l Z a0 hw [] o0 b1_48  T48.heap n0 (Nat.le_trans Z0 K48.1) ) 0 rfl hml' (argsL := [(.ref o0), (.ref b1_48)]) (rest := []) (lenOf aw1 rfl) (hb hby be4) (fun r67 T67 L67 X67 hQ67 => ?_)
  obtain ⟨rfl, Nq67, eq67⟩ := hQ67
  have N67 := Fr.app N48 Nq67
  show ac0 p e below P (T67.setTop (mkF m 23 #[.val (.ref o0), .val (.ref o1), .unset, .unset, .unset, .unset, .unset, .unset] [(.ref o0)]))
  refine bs5 X67 hx (hb hby bf4) rfl ?_
  refine ab0 X67 hx (hb hby bg4) rfl rfl ?_
  have G69 := (G58.keep Kq48 nin0)
  refine ap9 X67 hx hZ hown (z_w hw 163 rfl) (z_w hw 164 rfl) (z_w hw 168 rfl) (z_w hw 166 rfl) (z_w hw 167 rfl) (z_w hw 169 rfl) eq67 G69 (g := (mkF m 25 #[.val (.ref o0), .val (.ref o1), .unset, .unset, .unset, .unset, .unset, .unset] [(.ref o0)])) rfl (by rw [hml']; rfl) rfl (hb hby bh4) (by decide) 0 2 (by show 2 * 0 + _ ≤ _; exact Nat.le_of_eq rfl) (by decide) (Nat.le_refl _) (by decide) (by decide) (fun T68 h68 X68 e68 E68 B68 => ?_)
  obtain ⟨b68, g68⟩ : ∃ z, z = T48.heap.size := ⟨_, rfl⟩
  rw [← g68] at B68 ⊢
  have Sw70 := Safe.ext E68 hC.1 Sw64
  have Sw71 := Safe.ext E68 hC.1 Sw65
  have Sw72 := Safe.ext E68 hC.1 Sw66
  have hC := hC.trans (CHr.ext E68 hC.1)
  have G74 := (G50.keep Kq48)
  have ne73 := z_nb G74.lt g68
  have G76 := (f0_28.keep Kq48)
  have ne75 := z_nb G76.lt g68
  have G78 := (f4_28.keep Kq48 nin0)
  have ne77 := z_nb G78.lt g68
  have G80 := (G54.keep Kq48 nin0)
  have ne79 := z_nb G80.lt g68
  have G82 := (G56.keep Kq48 nin0)
  have ne81 := z_nb G82.lt g68
  have ne83 := z_nb G69.lt g68
  have G85 := (G60.keep Kq48)
  have ne84 := z_nb G85.lt g68
  have G87 := (G62.keep Kq48 nin0)
  have ne86 := z_nb G87.lt g68
  have ag3 : n0 ≤ b68 := Nat.le_trans (Nat.le_trans Z0 K48.1) (Nat.le_of_eq g68.symm)
  have an4 : h0.size ≤ b68 := Nat.le_trans K48.1 (Nat.le_of_eq g68.symm)
  have K68 := Keep.ext K48 E68
  have A68 : ag0 Z h68 b68 [c0, c1] := B68
  show ac0 p e below P (T68.setTop (mkF m 28 #[.val (.ref o0), .val (.ref o1), .unset, .unset, .unset, .unset, .unset, .unset] [(.ref b68)]))
  obtain ⟨T88, X88, e88, st88⟩ := castY X68 hx hZ hown (z_w hw 170 rfl) e68 (ag0.ins A68) (g := (mkF m 28 #[.val (.ref o0), .val (.ref o1), .unset, .unset, .unset, .unset, .unset, .unset] [(.ref b68)])) rfl rfl (hb hby bi4)
  refine ae1 (fun _ => st88 _) ?_
  show ac0 p e below P (T88.setTop (mkF m 31 #[.val (.ref o0), .val (.ref o1), .unset, .unset, .unset, .unset, .unset, .unset] [(.ref b68)]))
  refine av2 X88 hx (hb hby bj4) rfl (l' := #[.val (.ref o0), .val (.ref o1), .val (.ref b68), .unset, .unset, .unset, .unset, .unset]) rfl ?_
  refine ab0 X88 hx (hb hby bk4) rfl rfl ?_
  refine af1 X88 hx hZ (y := (⟨z_s5, "sort", "([I)V"⟩ : MethodName)) hown (z_w hw 172 rfl) (z_w hw 173 rfl) (z_w hw 112 rfl) (z_w hw 174 rfl) (ef1 l Z a0 hw [] b68 c0 c1 h68 n0 (Nat.le_trans Z0 K68.1) A68 ag3 hn0 hn1) 0 e88 hml' (argsL := [(.ref b68)]) (rest := []) (lenOf ao9 rfl) (hb hby bl4) (fun r89 T89 L89 X89 hQ89 => ?_)
  obtain ⟨ys89, rfl, Nq89, Kq89, As89, hl89, ha89⟩ := hQ89
  have N89 := Fr.app N67 Nq89
  obtain ⟨y0_89, y1_89, rfl⟩ := bb7 hl89
  have Sw90 := Safe.keep Kq89 (sfS (A68.safe (EL := consts_1) hZ.alike) sf0) hC.1 Sw70
  have Sw91 := Safe.keep Kq89 (sfS (A68.safe (EL := consts_1) hZ.alike) sf0) hC.1 Sw71
  have Sw92 := Safe.keep Kq89 (sfS (A68.safe (EL := consts_1) hZ.alike) sf0) hC.1 Sw72
  have hC := hC.trans (CHr.keep Kq89 (sfS (A68.safe (EL := consts_1) hZ.alike) sf0) hC.1)
  have K89 := Keep.trans K68 Kq89 (allS (Or.inr an4) all0)
  have ba5 : ¬ y0_89 < (0 : Int32) := ha89 _ (by simp)
  have ce6 : ¬ y1_89 < (0 : Int32) := ha89 _ (by simp)
  show ac0 p e below P (T89.setTop (mkF m 36 #[.val (.ref o0), .val (.ref o1), .val (.ref b68), .unset, .unset, .unset, .unset, .unset] []))
  refine ab0 X89 hx (hb hby bm4) rfl rfl ?_
  refine ah1 X89 hx hZ rfl As89 (z := (2 : Int32)) rfl (hb hby bn4) ?_
  refine aa3 X89 hx (hb hby bo4) ((if0 _ _).trans (tlt (by decide : (0 : Int32) < (2 : Int32))).2.2.2) ?_
  refine ab0 X89 hx (hb hby be7) rfl rfl ?_
  refine am0 X89 hx (hb hby bf7) (z := (0 : Int32)) rfl ?_
  refine al1 X89 hx hZ rfl As89 (j := (0 : Int32)) (v := y0_89) (i := 0) (by decide) rfl (hb hby bg7) ?_
  have hd93 : ¬ (y0_89 < (0 : Int32)) := by exact ba5
  refine ak4 X89 hx (pc' := 80) (hb hby bh7) ((if0 _ _).trans (flt hd93).2.1) ?_
  refine am0 X89 hx (hb hby bp4) (z := (0 : Int32)) rfl ?_
  refine aj2 X89 hx (hb hby bq4) (l' := #[.val (.ref o0), .val (.ref o1), .val (.ref b68), .val (.int (0 : Int32)), .unset, .unset, .unset, .unset]) rfl ?_
  refine ab0 X89 hx (hb hby br4) rfl rfl ?_
  refine ak7 X89 hx (hb hby bs4) rfl (l' := #[.val (.ref o0), .val (.ref o1), .val (.ref b68), .val (.int (0 : Int32)), .val (.ref b68), .unset, .unset, .unset]) rfl ?_
  refine az2 X89 hx (hb hby bt4) rfl rfl ?_
  refine ah1 X89 hx hZ rfl As89 (z := (2 : Int32)) rfl (hb hby bu4) ?_
  refine ai1 X89 hx (hb hby bv4) (l' := #[.val (.ref o0), .val (.ref o1), .val (.ref b68), .val (.int (0 : Int32)), .val (.ref b68), .val (.int (2 : Int32)), .unset, .unset]) rfl ?_
  refine am0 X89 hx (hb hby bw4) (z := (0 : Int32)) rfl ?_
  refine ai1 X89 hx (hb hby bx4) (l' := #[.val (.ref o0), .val (.ref o1), .val (.ref b68), .val (.int (0 : Int32)), .val (.ref b68), .val (.int (2 : Int32)), .val (.int (0 : Int32)), .unset]) rfl ?_
  refine ak0 X89 hx (hb hby ab2) rfl ?_
  refine ak0 X89 hx (hb hby ac2) rfl ?_
  refine av0 X89 hx (hb hby ad2) (tlt (by decide : (0 : Int32) < (2 : Int32))).2.1 ?_
  refine az2 X89 hx (hb hby at3) rfl rfl ?_
  refine ak0 X89 hx (hb hby au3) rfl ?_
  refine al1 X89 hx hZ rfl As89 (j := (0 : Int32)) (v := y0_89) (i := 0) (by decide) rfl (hb hby av3) ?_
  refine ai1 X89 hx (hb hby aw3) (l' := #[.val (.ref o0), .val (.ref o1), .val (.ref b68), .val (.int (0 : Int32)), .val (.ref b68), .val (.int (2 : Int32)), .val (.int (0 : Int32)), .val (.int y0_89)]) rfl ?_
  refine ae0 X89 hx (hb hby ax3) rfl ?_
  refine ak4 X89 hx (pc' := 121) (hb hby ay3) ((if0 _ _).trans (teq (by decide : (0 : Int32) = (0 : Int32))).1) ?_
  refine ab0 X89 hx (hb hby az3) rfl rfl ?_
  refine ae0 X89 hx (hb hby aa4) rfl ?_
  refine aq1 X89 hx (hb hby ab4) rfl (l' := #[.val (.ref o0), .val (.ref o1), .val (.ref b68), .val (.int (1 : Int32)), .val (.ref b68), .val (.int (2 : Int32)), .val (.int (0 : Int32)), .val (.int y0_89)]) rfl ?_
  refine ak0 X89 hx (hb hby ac4) rfl ?_
  refine ae2 X89 hx hZ rfl As89 (j := (0 : Int32)) (v := y0_89) (i := 0) (by decide) (by show (0 : Nat) < 2; decide) (hb hby ad4) (fun T94 h94 X94 e94 W94 B94 => ?_)
  have A94 : ag0 Z h94 b68 [y0_89, y1_89] := B94
  have Sf94 := (As89.safe (EL := consts_1) hZ.alike)
  have Sw95 := Safe.wr W94 Sf94 hC.1 Sw90
  have Sw96 := Safe.wr W94 Sf94 hC.1 Sw91
  have Sw97 := Safe.wr W94 Sf94 hC.1 Sw92
  have hC := hC.trans (CHr.wr W94 Sf94 hC.1)
  have N94 := Fr.snoc X94 N89 ag3
  have K94 := Keep.wr K89 W94 (Or.inr an4)
  refine aq1 X94 hx (hb hby ak2) rfl (l' := #[.val (.ref o0), .val (.ref o1), .val (.ref b68), .val (.int (1 : Int32)), .val (.ref b68), .val (.int (2 : Int32)), .val (.int (1 : Int32)), .val (.int y0_89)]) rfl ?_
  refine am1 X94 hx (pc' := 93) (hb hby al2) ?_
  refine ak0 X94 hx (hb hby ab2) rfl ?_
  refine ak0 X94 hx (hb hby ac2) rfl ?_
  refine av0 X94 hx (hb hby ad2) (tlt (by decide : (1 : Int32) < (2 : Int32))).2.1 ?_
  refine az2 X94 hx (hb hby at3) rfl rfl ?_
  refine ak0 X94 hx (hb hby au3) rfl ?_
  refine al1 X94 hx hZ e94 A94 (j := (1 : Int32)) (v := y1_89) (i := 1) (by decide) rfl (hb hby av3) ?_
  refine ai1 X94 hx (hb hby aw3) (l' := #[.val (.ref o0), .val (.ref o1), .val (.ref b68), .val (.int (1 : Int32)), .val (.ref b68), .val (.int (2 : Int32)), .val (.int (1 : Int32)), .val (.int y1_89)]) rfl ?_
  refine ae0 X94 hx (hb hby ax3) rfl ?_
  refine aa3 X94 hx (hb hby ay3) ((if0 _ _).trans (feq (by decide : ¬ ((1 : Int32) = (0 : Int32)))).1) ?_
  refine ab0 X94 hx (hb hby ah5) rfl rfl ?_
  refine ae0 X94 hx (hb hby ai5) rfl ?_
  refine am0 X94 hx (hb hby aj5) (z := (1 : Int32)) rfl ?_
  refine ar2 X94 hx (hb hby ak5) (z := (0 : Int32)) rfl ?_
  refine al1 X94 hx hZ e94 A94 (j := (0 : Int32)) (v := y0_89) (i := 0) (by decide) rfl (hb hby al5) ?_
  refine ak0 X94 hx (hb hby am5) rfl ?_
  by_cases hc98 : y0_89 = y1_89
  · refine au0 X94 hx (pc' := 129) (hb hby aw2) (teq hc98).1 ?_
    refine aq1 X94 hx (hb hby ak2) rfl (l' := #[.val (.ref o0), .val (.ref o1), .val (.ref b68), .val (.int (1 : Int32)), .val (.ref b68), .val (.int (2 : Int32)), .val (.int (2 : Int32)), .val (.int y1_89)]) rfl ?_
    refine am1 X94 hx (pc' := 93) (hb hby al2) ?_
    refine ak0 X94 hx (hb hby ab2) rfl ?_
    refine ak0 X94 hx (hb hby ac2) rfl ?_
    refine au0 X94 hx (pc' := 135) (hb hby ad2) (flt (by decide : ¬ ((2 : Int32) < (2 : Int32)))).2.1 ?_
    refine ae0 X94 hx (hb hby ah3) rfl ?_
    refine ab0 X94 hx (hb hby ai3) rfl rfl ?_
    refine ah1 X94 hx hZ e94 A94 (z := (2 : Int32)) rfl (hb hby aj3) ?_
    refine au0 X94 hx (pc' := 145) (hb hby ak3) (feq (by decide : ¬ ((1 : Int32) = (2 : Int32)))).2 ?_
    refine ab0 X94 hx (hb hby an5) rfl rfl ?_
    refine ae0 X94 hx (hb hby ao5) rfl ?_
    refine af1 X94 hx hZ (y := (⟨z_s5, "copyOf", "([II)[I"⟩ : MethodName)) hown (z_w hw 199 rfl) (z_w hw 200 rfl) (z_w hw 112 rfl) (z_w hw 201 rfl) (dq3 l Z a0 hw [] b68 y0_89 y1_89 h94 n0 (Nat.le_trans Z0 K94.1) A94) 0 e94 hml' (argsL := [(.ref b68), (.int (1 : Int32))]) (rest := []) (lenOf ah2 rfl) (hb hby ap5) (fun r99 T99 L99 X99 hQ99 => ?_)
    obtain ⟨br_99, rfl, Nq99, Kq99, a9, ea0, f0_99⟩ := hQ99
    have N99 := Fr.app N94 Nq99
    have G100 := (((G74.ext E68).keep Kq89).wr W94)
    have ne101 := z_nc G100.lt a9
    have G102 := (((G76.ext E68).keep Kq89).wr W94)
    have ne103 := z_nc G102.lt a9
    have G104 := (((G78.ext E68).keep Kq89 (ninS ne77 nin0)).other W94 ne77)
    have ne105 := z_nc G104.lt a9
    have G106 := (((G80.ext E68).keep Kq89 (ninS ne79 nin0)).other W94 ne79)
    have ne107 := z_nc G106.lt a9
    have G108 := (((G82.ext E68).keep Kq89 (ninS ne81 nin0)).other W94 ne81)
    have ne109 := z_nc G108.lt a9
    have ne110 := z_nc A94.lt a9
    have G111 := (((G69.ext E68).keep Kq89 (ninS ne83 nin0)).other W94 ne83)
    have ne112 := z_nc G111.lt a9
    have G113 := (((G85.ext E68).keep Kq89).wr W94)
    have ne114 := z_nc G113.lt a9
    have G115 := (((G87.ext E68).keep Kq89 (ninS ne86 nin0)).other W94 ne86)
    have ne116 := z_nc G115.lt a9
    have ev1 := Nat.le_trans K94.1 a9
    have Sw117 := Safe.keep Kq99 sf0 hC.1 Sw95
    have Sw118 := Safe.keep Kq99 sf0 hC.1 Sw96
    have Sw119 := Safe.keep Kq99 sf0 hC.1 Sw97
    have hC := hC.trans (CHr.keep Kq99 sf0 hC.1)
    have K99 := Keep.trans K94 Kq99 all0
    show ac0 p e below P (T99.setTop (mkF m 150 #[.val (.ref o0), .val (.ref o1), .val (.ref b68), .val (.int (1 : Int32)), .val (.ref b68), .val (.int (2 : Int32)), .val (.int (2 : Int32)), .val (.int y1_89)] [(.ref br_99)]))
    have G120 := (Nat.le_trans (Nat.le_trans (Nat.le_trans (Nat.le_trans (Nat.le_trans (Nat.le_trans hk22 Kq28.1) Kq48.1) E68.1) Kq89.1) (Keep.of_wr W94).1) Kq99.1)
    have hfin : (fun (v : Option Value) (h : Heap) (L : List Loc) => ∃ (br : Addr) (xr : List Int32), v = some (.ref br) ∧ Fr n0 L ∧ Keep h0 h [] ∧ h0.size ≤ br ∧ n0 ≤ br ∧ ag0 Z h br xr ∧ ((xr.length = 0 ↔ [c0, c1].length = 0) ∧ xr.length ≤ 4)) (some (.ref br_99)) T99.heap _ := ⟨br_99, [y0_89], rfl, N99, K99, ev1, ea0, f0_99, ⟨by simp, by simp⟩⟩
    refine ab5 X99 hS G120 rfl hZ hEL hC hx hlk hP rfl rfl hrt (hb hby al3) (by decide) (by decide) ?_
    exact hfin
  · refine av0 X94 hx (hb hby aw2) (feq hc98).1 ?_
    refine ab0 X94 hx (hb hby az3) rfl rfl ?_
    refine ae0 X94 hx (hb hby aa4) rfl ?_
    refine aq1 X94 hx (hb hby ab4) rfl (l' := #[.val (.ref o0), .val (.ref o1), .val (.ref b68), .val (.int (2 : Int32)), .val (.ref b68), .val (.int (2 : Int32)), .val (.int (1 : Int32)), .val (.int y1_89)]) rfl ?_
    refine ak0 X94 hx (hb hby ac4) rfl ?_
    refine ae2 X94 hx hZ e94 A94 (j := (1 : Int32)) (v := y1_89) (i := 1) (by decide) (by show (1 : Nat) < 2; decide) (hb hby ad4) (fun T122 h122 X122 e122 W122 B122 => ?_)
    have A122 : ag0 Z h122 b68 [y0_89, y1_89] := B122
    have Sf122 := (A94.safe (EL := consts_1) hZ.alike)
    have Sw123 := Safe.wr W122 Sf122 hC.1 Sw95
    have Sw124 := Safe.wr W122 Sf122 hC.1 Sw96
    have Sw125 := Safe.wr W122 Sf122 hC.1 Sw97
    have hC := hC.trans (CHr.wr W122 Sf122 hC.1)
    have N122 := Fr.snoc X122 N94 ag3
    have K122 := Keep.wr K94 W122 (Or.inr an4)
    refine aq1 X122 hx (hb hby ak2) rfl (l' := #[.val (.ref o0), .val (.ref o1), .val (.ref b68), .val (.int (2 : Int32)), .val (.ref b68), .val (.int (2 : Int32)), .val (.int (2 : Int32)), .val (.int y1_89)]) rfl ?_
    refine am1 X122 hx (pc' := 93) (hb hby al2) ?_
    refine ak0 X122 hx (hb hby ab2) rfl ?_
    refine ak0 X122 hx (hb hby ac2) rfl ?_
    refine au0 X122 hx (pc' := 135) (hb hby ad2) (flt (by decide : ¬ ((2 : Int32) < (2 : Int32)))).2.1 ?_
    refine ae0 X122 hx (hb hby ah3) rfl ?_
    refine ab0 X122 hx (hb hby ai3) rfl rfl ?_
    refine ah1 X122 hx hZ e122 A122 (z := (2 : Int32)) rfl (hb hby aj3) ?_
    refine av0 X122 hx (hb hby ak3) (teq (by decide : (2 : Int32) = (2 : Int32))).2 ?_
    refine ab0 X122 hx (hb hby bk1) rfl rfl ?_
    refine am1 X122 hx (pc' := 150) (hb hby bl1) ?_
    have G126 := (Nat.le_trans (Nat.le_trans (Nat.le_trans (Nat.le_trans (Nat.le_trans (Nat.le_trans hk22 Kq28.1) Kq48.1) E68.1) Kq89.1) (Keep.of_wr W94).1) (Keep.of_wr W122).1)
    have hfin : (fun (v : Option Value) (h : Heap) (L : List Loc) => ∃ (br : Addr) (xr : List Int32), v = some (.ref br) ∧ Fr n0 L ∧ Keep h0 h [] ∧ h0.size ≤ br ∧ n0 ≤ br ∧ ag0 Z h br xr ∧ ((xr.length = 0 ↔ [c0, c1].length = 0) ∧ xr.length ≤ 4)) (some (.ref b68)) h122 _ := ⟨b68, [y0_89, y1_89], rfl, N122, K122, an4, ag3, A122, ⟨by simp, by simp⟩⟩
    refine ab5 X122 hS G126 e122 hZ hEL hC hx hlk hP rfl rfl hrt (hb hby al3) (by decide) (by decide) ?_
    rw [e122]; exact hfin
theorem eb0 (m : MethodId) (o0 : Addr) (o1 : Addr) : entryFrame m #[(.ref o0), (.ref o1)] 8 = mkF m 0 #[.val (.ref o0), .val (.ref o1), .unset, .unset, .unset, .unset, .unset, .unset] [] := by first | (simp [entryFrame, mkF, argsToLocals, Value.category]; done) | rfl
set_option maxRecDepth 65536 in
set_option maxHeartbeats 40000000 in
theorem ew1 (l : Launch) (Z : State) (a0 : Array Value) (hw : ∀ d ∈ tables_1, d.before a0 Z = true) (ws : List Jvm.Cond) (o0 : Addr) (o1 : Addr) (n : Nat) (c0 : Int32) (c1 : Int32) (c2 : Int32) (ah0 : Addr) (aa0 : Int32) (h0 : Heap) (n0 : Nat) (Z0 : n0 ≤ h0.size) (E_o1 : Exa Z h0 o1 z_s1) (ac1 : Fld Z h0 o1 z_s1 "value" "[B" (.ref ah0)) (aa1 : Fld Z h0 o1 z_s1 "coder" "B" (.int (0 : Int32))) (af0 : Sta Z h0 z_s1 z_s8 "Z" (.int aa0)) (A_o0 : ag0 Z h0 o0 [c0, c1, c2]) (at0 : ao0 Z h0 ah0 n) (hnz : ¬ (aa0 = (0 : Int32))) (hn : bv2 n) (hn0 : ¬ (c0 < (0 : Int32))) (hn1 : ¬ (c1 < (0 : Int32))) (hn2 : ¬ (c2 < (0 : Int32))) :
    al9 l Z consts_1 (⟨z_s3, "distinct", "([ILjava/lang/String;)[I"⟩ : MethodName) prog_6_method_14_code 8 (some (.array .int)) ws ({ frames := 6, cells := 9, slots := 170, locals := 114 } : Room) #[(.ref o0), (.ref o1)] h0 (fun (v : Option Value) (h : Heap) (L : List Loc) => ∃ (br : Addr) (xr : List Int32), v = some (.ref br) ∧ Fr n0 L ∧ Keep h0 h [] ∧ h0.size ≤ br ∧ n0 ≤ br ∧ ag0 Z h br xr ∧ ((xr.length = 0 ↔ [c0, c1, c2].length = 0) ∧ xr.length ≤ 4)) := by
  refine bo1 (plainFor_of_name an0) ?_
  intro p e s m below meth c s₁ P vm0 k0 hx hby hml hrt hlk hown hnm hZ X0 e0 hS hk hC hP
  have N0 := Fr.nil n0
  have K0 := Keep.refl h0 []
  have hml' : c.maxLocals = 8 := hml
  have hEL := bj7 hw
  refine ar0 (eb0 m o0 o1) ?_
  show ac0 p e below P (s₁.setTop (mkF m 0 #[.val (.ref o0), .val (.ref o1), .unset, .unset, .unset, .unset, .unset, .unset] []))
  refine ab0 X0 hx (hb hby br6) rfl rfl ?_
  obtain ⟨T1, h1, X1, e1, E1, A1, D1, -, st1⟩ := newO X0 hx hZ hown (z_w hw 26 rfl) (z_w hw 27 rfl) (z_w hw 28 rfl) e0 (g := (mkF m 1 #[.val (.ref o0), .val (.ref o1), .unset, .unset, .unset, .unset, .unset, .unset] [(.ref o0)])) rfl (hb hby bs6) (by decide) (by decide)
  obtain ⟨b1, g1⟩ : ∃ z, z = h0.size := ⟨_, rfl⟩
  rw [← g1] at A1 D1 st1
  have hC := hC.trans (CHr.ext E1 hC.1)
  have ne2 := z_nb A_o0.lt g1
  have ne3 := z_nb E_o1.lt g1
  have ne4 := z_nb at0.lt g1
  have ao1 : n0 ≤ b1 := Nat.le_trans (Nat.le_trans Z0 K0.1) (Nat.le_of_eq g1.symm)
  have ay1 : h0.size ≤ b1 := Nat.le_trans K0.1 (Nat.le_of_eq g1.symm)
  have K1 := Keep.ext K0 E1
  have at4 : Fld Z h1 b1 z_s0 "value" "[B" .null := D1 (Or.inl (z_w hw 41 rfl)) (ty := (.array .byte)) (by decide)
  have au4 : Fld Z h1 b1 z_s0 "coder" "B" (.int (0 : Int32)) := D1 (Or.inl (z_w hw 43 rfl)) (ty := .byte) (by decide)
  have ax8 : Fld Z h1 b1 z_s0 "count" "I" (.int (0 : Int32)) := D1 (Or.inl (z_w hw 68 rfl)) (ty := .int) (by decide)
  refine ae1 (fun _ => st1 _) ?_
  show ac0 p e below P (T1.setTop (mkF m 4 #[.val (.ref o0), .val (.ref o1), .unset, .unset, .unset, .unset, .unset, .unset] [(.ref b1), (.ref o0)]))
  refine an6 X1 hx (hb hby bt6) rfl ?_
  have G6 := (af0.ext E1)
  refine ai9 X1 hx hZ (y := (⟨z_s2, "<init>", "()V"⟩ : MethodName)) hown (z_w hw 29 rfl) (z_w hw 30 rfl) (z_w hw 28 rfl) (z_w hw 31 rfl) (bn7 l Z a0 hw [] b1 aa0 h1 n0 (Nat.le_trans Z0 K1.1) A1 at4 au4 ax8 G6 ao1 hnz) 2 e1 hml' (a := b1) (argsL := []) (rest := [(.ref b1), (.ref o0)]) (lenOf bj1 rfl) (hb hby bu6) (fun r5 T5 L5 X5 hQ5 => ?_)
  obtain ⟨b3_1_5, rfl, Nq5, Kq5, af2, ay8, f0_5, f1_5, f2_5, f3_5, f4_5⟩ := hQ5
  have N5 := Fr.app N0 Nq5
  have ne7 := z_nc A1.lt af2
  have G8 := (A_o0.ext E1)
  have ne9 := z_nc G8.lt af2
  have G10 := (E_o1.ext E1)
  have ne11 := z_nc G10.lt af2
  have G12 := (at0.ext E1)
  have ne13 := z_nc G12.lt af2
  have ak9 := Nat.le_trans K1.1 af2
  have Sw14 := Safe.keep Kq5 (sfS (Safe.exa (EL := consts_1) hZ.alike A1 (by decide) (by decide)) sf0) hC.1 (Safe.new af2)
  have hC := hC.trans (CHr.keep Kq5 (sfS (Safe.exa (EL := consts_1) hZ.alike A1 (by decide) (by decide)) sf0) hC.1)
  have K5 := Keep.trans K1 Kq5 (allS (Or.inr ay1) all0)
  show ac0 p e below P (T5.setTop (mkF m 8 #[.val (.ref o0), .val (.ref o1), .unset, .unset, .unset, .unset, .unset, .unset] [(.ref b1), (.ref o0)]))
  refine ab0 X5 hx (hb hby bv6) rfl rfl ?_
  have G16 := (G10.keep Kq5)
  have G17 := ((ac1.ext E1).keep Kq5 (ninS ne3 nin0))
  have G18 := ((aa1.ext E1).keep Kq5 (ninS ne3 nin0))
  have G19 := (an2 G6 Kq5 (allS (ah6 A1) all0))
  have G20 := (G12.keep Kq5 (ninS ne4 nin0))
  refine ag2 X5 hx hZ (y := (⟨z_s2, "append", z_s4⟩ : MethodName)) (z := (⟨z_s2, "append", z_s4⟩ : MethodName)) hown (z_w hw 44 rfl) (z_w hw 45 rfl) (notFace_of_selects (args := #[]) (mvT hZ (z_w hw 47 rfl))) (z_w hw 47 rfl) (z_w hw 46 rfl) (z_w hw 28 rfl) (z_w hw 48 rfl) f0_5 (bu7 l Z a0 hw [] b1 o1 n b3_1_5 ah0 aa0 T5.heap n0 (Nat.le_trans Z0 K5.1) f0_5 G16 f1_5 f2_5 f3_5 G17 G18 G19 f4_5 G20 ao1 ay8 ne7 ne3.symm ne4.symm ne11.symm ne13.symm hnz hn) 1 rfl hml' (argsL := [(.ref o1)]) (rest := [(.ref o0)]) (lenOf ag1 rfl) (hb hby bw6) (fun r15 T15 L15 X15 hQ15 => ?_)
  obtain ⟨rfl, Nq15, Kq15, f0_15, f1_15, f2_15, f3_15, f4_15⟩ := hQ15
  have N15 := Fr.app N5 Nq15
  have Sw21 := Safe.keep Kq15 (sfS (Safe.exa (EL := consts_1) hZ.alike f0_5 (by decide) (by decide)) (sfS Sw14 sf0)) hC.1 Sw14
  have hC := hC.trans (CHr.keep Kq15 (sfS (Safe.exa (EL := consts_1) hZ.alike f0_5 (by decide) (by decide)) (sfS Sw14 sf0)) hC.1)
  have K15 := Keep.trans K5 Kq15 (allS (Or.inr ay1) (allS (Or.inr ak9) all0))
  show ac0 p e below P (T15.setTop (mkF m 12 #[.val (.ref o0), .val (.ref o1), .unset, .unset, .unset, .unset, .unset, .unset] [(.ref b1), (.ref o0)]))
  have G23 := (Nat.le_trans (Nat.le_trans (Nat.le_trans hk E1.1) Kq5.1) Kq15.1)
  have Sw24 := (Safe.exa (EL := consts_1) hZ.alike f0_15 (by decide) (by decide))
  have Sw25 := Sw21
  obtain ⟨a22, T22, h22, k22, b22, c22, X22, e22, E22, hS, hk22, hZ, hown, EA22, FC22, FV22, VV22, -, -, hC22, Li22, Ne22, st22⟩ := ldcCH X15 hx hZ hown (z_w hw 94 rfl) (bz2 hw) rfl hS G23 hEL (List.mem_of_getElem? (i := 5) rfl) hC.1 (vs := [(.int (32 : Int32)), (.int (109 : Int32)), (.int (117 : Int32)), (.int (115 : Int32)), (.int (116 : Int32)), (.int (32 : Int32)), (.int (110 : Int32)), (.int (111 : Int32)), (.int (116 : Int32)), (.int (32 : Int32)), (.int (98 : Int32)), (.int (101 : Int32)), (.int (32 : Int32)), (.int (110 : Int32)), (.int (117 : Int32)), (.int (108 : Int32)), (.int (108 : Int32))]) (z := (17 : Int32)) ⟨by decide, by rfl⟩ (by decide) (by decide) (g := (mkF m 12 #[.val (.ref o0), .val (.ref o1), .unset, .unset, .unset, .unset, .unset, .unset] [(.ref b1), (.ref o0)])) rfl (hb hby bb4) (n := 68) (by decide) (by decide) (by decide) (by decide)
  have Sw26 := hC22.safe f0_15.lt Sw24
  have Sw27 := hC22.safe f4_15.lt Sw25
  have hC := hC.trans hC22
  have K22 := Keep.ext K15 E22
  have BV22 : ao0 Z h22 b22 17 := ao0.ofV VV22 (by decide) (by rfl)
  refine ae1 (fun _ => st22 _) ?_
  show ac0 p e below P (T22.setTop (mkF m 14 #[.val (.ref o0), .val (.ref o1), .unset, .unset, .unset, .unset, .unset, .unset] [(.ref a22), (.ref b1), (.ref o0)]))
  have G29 := (f0_15.ext E22)
  have G30 := (f1_15.ext E22)
  have G31 := (f2_15.ext E22)
  have G32 := (f3_15.ext E22)
  have G33 := ((an2 G19 Kq15 (allS (ah6 f0_5) (allS (bm7 f4_5) all0))).ext E22)
  have G34 := (f4_15.ext E22)
  refine ag2 X22 hx hZ (y := (⟨z_s2, "append", z_s4⟩ : MethodName)) (z := (⟨z_s2, "append", z_s4⟩ : MethodName)) hown (z_w hw 44 rfl) (z_w hw 45 rfl) (notFace_of_selects (args := #[]) (mvT hZ (z_w hw 47 rfl))) (z_w hw 47 rfl) (z_w hw 46 rfl) (z_w hw 28 rfl) (z_w hw 48 rfl) G29 (bv7 l Z a0 hw [] b1 a22 n b3_1_5 b22 aa0 h22 n0 (Nat.le_trans Z0 K22.1) G29 EA22 G30 G31 G32 FV22 FC22 G33 G34 BV22 ao1 ne7 (Ne22 _ Sw26).1 (Ne22 _ Sw26).2 hnz hn) 1 e22 hml' (argsL := [(.ref a22)]) (rest := [(.ref o0)]) (lenOf ag1 rfl) (hb hby bc4) (fun r28 T28 L28 X28 hQ28 => ?_)
  obtain ⟨b1_6_3_1_28, rfl, Nq28, Kq28, ax0, bf1, f0_28, f1_28, f2_28, f3_28, f4_28⟩ := hQ28
  have N28 := Fr.app N15 Nq28
  have ne35 := z_nc EA22.lt ax0
  have ne36 := z_nc G29.lt ax0
  have ne37 := z_nc BV22.lt ax0
  have ne38 := z_nc G34.lt ax0
  have G39 := (((G8.keep Kq5 (ninS ne2 nin0)).keep Kq15 (ninS ne2 (ninS ne9 nin0))).ext E22)
  have ne40 := z_nc G39.lt ax0
  have G41 := ((G16.keep Kq15).ext E22)
  have ne42 := z_nc G41.lt ax0
  have G43 := ((G20.keep Kq15 (ninS ne4 (ninS ne13 nin0))).ext E22)
  have ne44 := z_nc G43.lt ax0
  have bw2 := Nat.le_trans K22.1 ax0
  have Sw45 := Safe.keep Kq28 (sfS Sw26 sf0) hC.1 Sw27
  have Sw46 := Safe.keep Kq28 (sfS Sw26 sf0) hC.1 Sw26
  have Sw47 := Safe.keep Kq28 (sfS Sw26 sf0) hC.1 (Safe.new ax0)
  have hC := hC.trans (CHr.keep Kq28 (sfS Sw26 sf0) hC.1)
  have K28 := Keep.trans K22 Kq28 (allS (Or.inr ay1) all0)
  show ac0 p e below P (T28.setTop (mkF m 17 #[.val (.ref o0), .val (.ref o1), .unset, .unset, .unset, .unset, .unset, .unset] [(.ref b1), (.ref o0)]))
  have G49 := (an2 G33 Kq28 (allS (ah6 G29) all0))
  refine ag2 X28 hx hZ (y := (⟨z_s2, "toString", "()Ljava/lang/String;"⟩ : MethodName)) (z := (⟨z_s2, "toString", "()Ljava/lang/String;"⟩ : MethodName)) hown (z_w hw 118 rfl) (z_w hw 119 rfl) (notFace_of_selects (args := #[]) (mvT hZ (z_w hw 121 rfl))) (z_w hw 121 rfl) (z_w hw 120 rfl) (z_w hw 28 rfl) (z_w hw 122 rfl) f0_28 (bw7 l Z a0 hw [] b1 n b1_6_3_1_28 aa0 T28.heap n0 (Nat.le_trans Z0 K28.1) f0_28 f1_28 f2_28 f3_28 G49 f4_28 hnz hn) 1 rfl hml' (argsL := []) (rest := [(.ref o0)]) (lenOf ar4 rfl) (hb hby bd4) (fun r48 T48 L48 X48 hQ48 => ?_)
  obtain ⟨b1_48, rfl, Nq48, Kq48, an1, bg8⟩ := hQ48
  have N48 := Fr.app N28 Nq48
  have G50 := (EA22.keep Kq28)
  have ne51 := z_nc G50.lt an1
  have ne52 := z_nc f0_28.lt an1
  have ne53 := z_nc f4_28.lt an1
  have G54 := (BV22.keep Kq28 (ninS (Ne.symm (Ne22 _ Sw26).2) nin0))
  have ne55 := z_nc G54.lt an1
  have G56 := (G34.keep Kq28 (ninS ne7.symm nin0))
  have ne57 := z_nc G56.lt an1
  have G58 := (G39.keep Kq28 (ninS ne2 nin0))
  have ne59 := z_nc G58.lt an1
  have G60 := (G41.keep Kq28)
  have ne61 := z_nc G60.lt an1
  have G62 := (G43.keep Kq28 (ninS ne4 nin0))
  have ne63 := z_nc G62.lt an1
  have cw3 := Nat.le_trans K28.1 an1
  have Sw64 := Safe.keep Kq48 sf0 hC.1 Sw45
  have Sw65 := Safe.keep Kq48 sf0 hC.1 Sw46
  have Sw66 := Safe.keep Kq48 sf0 hC.1 Sw47
  have hC := hC.trans (CHr.keep Kq48 sf0 hC.1)
  have K48 := Keep.trans K28 Kq48 all0
  show ac0 p e below P (T48.setTop (mkF m 20 #[.val (.ref o0), .val (.ref o1), .unset, .unset, .unset, .unset, .unset, .unset] [(.ref b1_48), (.ref o0)]))
  refine af1 X48 hx hZ (y := (⟨"java/util/Objects", "requireNonNull", co1⟩ : MethodName)) hown (z_w hw 159 rfl) (z_w hw 160 rfl) (z_w hw 161 rfl) (z_w hw 162 rfl) (bt7 l Z a0 hw [] o0 b1_48  T48.heap n0 (Nat.le_trans Z0 K48.1) ) 0 rfl hml' (argsL := [(.ref o0), (.ref b1_48)]) (rest := []) (lenOf aw1 rfl) (hb hby be4) (fun r67 T67 L67 X67 hQ67 => ?_)
  obtain ⟨rfl, Nq67, eq67⟩ := hQ67
  have N67 := Fr.app N48 Nq67
  show ac0 p e below P (T67.setTop (mkF m 23 #[.val (.ref o0), .val (.ref o1), .unset, .unset, .unset, .unset, .unset, .unset] [(.ref o0)]))
  refine bs5 X67 hx (hb hby bf4) rfl ?_
  refine ab0 X67 hx (hb hby bg4) rfl rfl ?_
  have G69 := (G58.keep Kq48 nin0)
  refine ap9 X67 hx hZ hown (z_w hw 163 rfl) (z_w hw 164 rfl) (z_w hw 168 rfl) (z_w hw 166 rfl) (z_w hw 167 rfl) (z_w hw 169 rfl) eq67 G69 (g := (mkF m 25 #[.val (.ref o0), .val (.ref o1), .unset, .unset, .unset, .unset, .unset, .unset] [(.ref o0)])) rfl (by rw [hml']; rfl) rfl (hb hby bh4) (by decide) 0 3 (by show 2 * 0 + _ ≤ _; exact Nat.le_of_eq rfl) (by decide) (Nat.le_refl _) (by decide) (by decide) (fun T68 h68 X68 e68 E68 B68 => ?_)
  obtain ⟨b68, g68⟩ : ∃ z, z = T48.heap.size := ⟨_, rfl⟩
  rw [← g68] at B68 ⊢
  have Sw70 := Safe.ext E68 hC.1 Sw64
  have Sw71 := Safe.ext E68 hC.1 Sw65
  have Sw72 := Safe.ext E68 hC.1 Sw66
  have hC := hC.trans (CHr.ext E68 hC.1)
  have G74 := (G50.keep Kq48)
  have ne73 := z_nb G74.lt g68
  have G76 := (f0_28.keep Kq48)
  have ne75 := z_nb G76.lt g68
  have G78 := (f4_28.keep Kq48 nin0)
  have ne77 := z_nb G78.lt g68
  have G80 := (G54.keep Kq48 nin0)
  have ne79 := z_nb G80.lt g68
  have G82 := (G56.keep Kq48 nin0)
  have ne81 := z_nb G82.lt g68
  have ne83 := z_nb G69.lt g68
  have G85 := (G60.keep Kq48)
  have ne84 := z_nb G85.lt g68
  have G87 := (G62.keep Kq48 nin0)
  have ne86 := z_nb G87.lt g68
  have ag3 : n0 ≤ b68 := Nat.le_trans (Nat.le_trans Z0 K48.1) (Nat.le_of_eq g68.symm)
  have an4 : h0.size ≤ b68 := Nat.le_trans K48.1 (Nat.le_of_eq g68.symm)
  have K68 := Keep.ext K48 E68
  have A68 : ag0 Z h68 b68 [c0, c1, c2] := B68
  show ac0 p e below P (T68.setTop (mkF m 28 #[.val (.ref o0), .val (.ref o1), .unset, .unset, .unset, .unset, .unset, .unset] [(.ref b68)]))
  obtain ⟨T88, X88, e88, st88⟩ := castY X68 hx hZ hown (z_w hw 170 rfl) e68 (ag0.ins A68) (g := (mkF m 28 #[.val (.ref o0), .val (.ref o1), .unset, .unset, .unset, .unset, .unset, .unset] [(.ref b68)])) rfl rfl (hb hby bi4)
  refine ae1 (fun _ => st88 _) ?_
  show ac0 p e below P (T88.setTop (mkF m 31 #[.val (.ref o0), .val (.ref o1), .unset, .unset, .unset, .unset, .unset, .unset] [(.ref b68)]))
  refine av2 X88 hx (hb hby bj4) rfl (l' := #[.val (.ref o0), .val (.ref o1), .val (.ref b68), .unset, .unset, .unset, .unset, .unset]) rfl ?_
  refine ab0 X88 hx (hb hby bk4) rfl rfl ?_
  refine af1 X88 hx hZ (y := (⟨z_s5, "sort", "([I)V"⟩ : MethodName)) hown (z_w hw 172 rfl) (z_w hw 173 rfl) (z_w hw 112 rfl) (z_w hw 174 rfl) (ek1 l Z a0 hw [] b68 c0 c1 c2 h68 n0 (Nat.le_trans Z0 K68.1) A68 ag3 hn0 hn1 hn2) 0 e88 hml' (argsL := [(.ref b68)]) (rest := []) (lenOf ao9 rfl) (hb hby bl4) (fun r89 T89 L89 X89 hQ89 => ?_)
  obtain ⟨ys89, rfl, Nq89, Kq89, As89, hl89, ha89⟩ := hQ89
  have N89 := Fr.app N67 Nq89
  obtain ⟨y0_89, y1_89, y2_89, rfl⟩ := bx7 hl89
  have Sw90 := Safe.keep Kq89 (sfS (A68.safe (EL := consts_1) hZ.alike) sf0) hC.1 Sw70
  have Sw91 := Safe.keep Kq89 (sfS (A68.safe (EL := consts_1) hZ.alike) sf0) hC.1 Sw71
  have Sw92 := Safe.keep Kq89 (sfS (A68.safe (EL := consts_1) hZ.alike) sf0) hC.1 Sw72
  have hC := hC.trans (CHr.keep Kq89 (sfS (A68.safe (EL := consts_1) hZ.alike) sf0) hC.1)
  have K89 := Keep.trans K68 Kq89 (allS (Or.inr an4) all0)
  have ba5 : ¬ y0_89 < (0 : Int32) := ha89 _ (by simp)
  have ce6 : ¬ y1_89 < (0 : Int32) := ha89 _ (by simp)
  have er1 : ¬ y2_89 < (0 : Int32) := ha89 _ (by simp)
  show ac0 p e below P (T89.setTop (mkF m 36 #[.val (.ref o0), .val (.ref o1), .val (.ref b68), .unset, .unset, .unset, .unset, .unset] []))
  refine ab0 X89 hx (hb hby bm4) rfl rfl ?_
  refine ah1 X89 hx hZ rfl As89 (z := (3 : Int32)) rfl (hb hby bn4) ?_
  refine aa3 X89 hx (hb hby bo4) ((if0 _ _).trans (tlt (by decide : (0 : Int32) < (3 : Int32))).2.2.2) ?_
  refine ab0 X89 hx (hb hby be7) rfl rfl ?_
  refine am0 X89 hx (hb hby bf7) (z := (0 : Int32)) rfl ?_
  refine al1 X89 hx hZ rfl As89 (j := (0 : Int32)) (v := y0_89) (i := 0) (by decide) rfl (hb hby bg7) ?_
  have hd93 : ¬ (y0_89 < (0 : Int32)) := by exact ba5
  refine ak4 X89 hx (pc' := 80) (hb hby bh7) ((if0 _ _).trans (flt hd93).2.1) ?_
  refine am0 X89 hx (hb hby bp4) (z := (0 : Int32)) rfl ?_
  refine aj2 X89 hx (hb hby bq4) (l' := #[.val (.ref o0), .val (.ref o1), .val (.ref b68), .val (.int (0 : Int32)), .unset, .unset, .unset, .unset]) rfl ?_
  refine ab0 X89 hx (hb hby br4) rfl rfl ?_
  refine ak7 X89 hx (hb hby bs4) rfl (l' := #[.val (.ref o0), .val (.ref o1), .val (.ref b68), .val (.int (0 : Int32)), .val (.ref b68), .unset, .unset, .unset]) rfl ?_
  refine az2 X89 hx (hb hby bt4) rfl rfl ?_
  refine ah1 X89 hx hZ rfl As89 (z := (3 : Int32)) rfl (hb hby bu4) ?_
  refine ai1 X89 hx (hb hby bv4) (l' := #[.val (.ref o0), .val (.ref o1), .val (.ref b68), .val (.int (0 : Int32)), .val (.ref b68), .val (.int (3 : Int32)), .unset, .unset]) rfl ?_
  refine am0 X89 hx (hb hby bw4) (z := (0 : Int32)) rfl ?_
  refine ai1 X89 hx (hb hby bx4) (l' := #[.val (.ref o0), .val (.ref o1), .val (.ref b68), .val (.int (0 : Int32)), .val (.ref b68), .val (.int (3 : Int32)), .val (.int (0 : Int32)), .unset]) rfl ?_
  refine ak0 X89 hx (hb hby ab2) rfl ?_
  refine ak0 X89 hx (hb hby ac2) rfl ?_
  refine av0 X89 hx (hb hby ad2) (tlt (by decide : (0 : Int32) < (3 : Int32))).2.1 ?_
  refine az2 X89 hx (hb hby at3) rfl rfl ?_
  refine ak0 X89 hx (hb hby au3) rfl ?_
  refine al1 X89 hx hZ rfl As89 (j := (0 : Int32)) (v := y0_89) (i := 0) (by decide) rfl (hb hby av3) ?_
  refine ai1 X89 hx (hb hby aw3) (l' := #[.val (.ref o0), .val (.ref o1), .val (.ref b68), .val (.int (0 : Int32)), .val (.ref b68), .val (.int (3 : Int32)), .val (.int (0 : Int32)), .val (.int y0_89)]) rfl ?_
  refine ae0 X89 hx (hb hby ax3) rfl ?_
  refine ak4 X89 hx (pc' := 121) (hb hby ay3) ((if0 _ _).trans (teq (by decide : (0 : Int32) = (0 : Int32))).1) ?_
  refine ab0 X89 hx (hb hby az3) rfl rfl ?_
  refine ae0 X89 hx (hb hby aa4) rfl ?_
  refine aq1 X89 hx (hb hby ab4) rfl (l' := #[.val (.ref o0), .val (.ref o1), .val (.ref b68), .val (.int (1 : Int32)), .val (.ref b68), .val (.int (3 : Int32)), .val (.int (0 : Int32)), .val (.int y0_89)]) rfl ?_
  refine ak0 X89 hx (hb hby ac4) rfl ?_
  refine ae2 X89 hx hZ rfl As89 (j := (0 : Int32)) (v := y0_89) (i := 0) (by decide) (by show (0 : Nat) < 3; decide) (hb hby ad4) (fun T94 h94 X94 e94 W94 B94 => ?_)
  have A94 : ag0 Z h94 b68 [y0_89, y1_89, y2_89] := B94
  have Sf94 := (As89.safe (EL := consts_1) hZ.alike)
  have Sw95 := Safe.wr W94 Sf94 hC.1 Sw90
  have Sw96 := Safe.wr W94 Sf94 hC.1 Sw91
  have Sw97 := Safe.wr W94 Sf94 hC.1 Sw92
  have hC := hC.trans (CHr.wr W94 Sf94 hC.1)
  have N94 := Fr.snoc X94 N89 ag3
  have K94 := Keep.wr K89 W94 (Or.inr an4)
  refine aq1 X94 hx (hb hby ak2) rfl (l' := #[.val (.ref o0), .val (.ref o1), .val (.ref b68), .val (.int (1 : Int32)), .val (.ref b68), .val (.int (3 : Int32)), .val (.int (1 : Int32)), .val (.int y0_89)]) rfl ?_
  refine am1 X94 hx (pc' := 93) (hb hby al2) ?_
  refine ak0 X94 hx (hb hby ab2) rfl ?_
  refine ak0 X94 hx (hb hby ac2) rfl ?_
  refine av0 X94 hx (hb hby ad2) (tlt (by decide : (1 : Int32) < (3 : Int32))).2.1 ?_
  refine az2 X94 hx (hb hby at3) rfl rfl ?_
  refine ak0 X94 hx (hb hby au3) rfl ?_
  refine al1 X94 hx hZ e94 A94 (j := (1 : Int32)) (v := y1_89) (i := 1) (by decide) rfl (hb hby av3) ?_
  refine ai1 X94 hx (hb hby aw3) (l' := #[.val (.ref o0), .val (.ref o1), .val (.ref b68), .val (.int (1 : Int32)), .val (.ref b68), .val (.int (3 : Int32)), .val (.int (1 : Int32)), .val (.int y1_89)]) rfl ?_
  refine ae0 X94 hx (hb hby ax3) rfl ?_
  refine aa3 X94 hx (hb hby ay3) ((if0 _ _).trans (feq (by decide : ¬ ((1 : Int32) = (0 : Int32)))).1) ?_
  refine ab0 X94 hx (hb hby ah5) rfl rfl ?_
  refine ae0 X94 hx (hb hby ai5) rfl ?_
  refine am0 X94 hx (hb hby aj5) (z := (1 : Int32)) rfl ?_
  refine ar2 X94 hx (hb hby ak5) (z := (0 : Int32)) rfl ?_
  refine al1 X94 hx hZ e94 A94 (j := (0 : Int32)) (v := y0_89) (i := 0) (by decide) rfl (hb hby al5) ?_
  refine ak0 X94 hx (hb hby am5) rfl ?_
  by_cases hc98 : y0_89 = y1_89
  · refine au0 X94 hx (pc' := 129) (hb hby aw2) (teq hc98).1 ?_
    refine aq1 X94 hx (hb hby ak2) rfl (l' := #[.val (.ref o0), .val (.ref o1), .val (.ref b68), .val (.int (1 : Int32)), .val (.ref b68), .val (.int (3 : Int32)), .val (.int (2 : Int32)), .val (.int y1_89)]) rfl ?_
    refine am1 X94 hx (pc' := 93) (hb hby al2) ?_
    refine ak0 X94 hx (hb hby ab2) rfl ?_
    refine ak0 X94 hx (hb hby ac2) rfl ?_
    refine av0 X94 hx (hb hby ad2) (tlt (by decide : (2 : Int32) < (3 : Int32))).2.1 ?_
    refine az2 X94 hx (hb hby at3) rfl rfl ?_
    refine ak0 X94 hx (hb hby au3) rfl ?_
    refine al1 X94 hx hZ e94 A94 (j := (2 : Int32)) (v := y2_89) (i := 2) (by decide) rfl (hb hby av3) ?_
    refine ai1 X94 hx (hb hby aw3) (l' := #[.val (.ref o0), .val (.ref o1), .val (.ref b68), .val (.int (1 : Int32)), .val (.ref b68), .val (.int (3 : Int32)), .val (.int (2 : Int32)), .val (.int y2_89)]) rfl ?_
    refine ae0 X94 hx (hb hby ax3) rfl ?_
    refine aa3 X94 hx (hb hby ay3) ((if0 _ _).trans (feq (by decide : ¬ ((1 : Int32) = (0 : Int32)))).1) ?_
    refine ab0 X94 hx (hb hby ah5) rfl rfl ?_
    refine ae0 X94 hx (hb hby ai5) rfl ?_
    refine am0 X94 hx (hb hby aj5) (z := (1 : Int32)) rfl ?_
    refine ar2 X94 hx (hb hby ak5) (z := (0 : Int32)) rfl ?_
    refine al1 X94 hx hZ e94 A94 (j := (0 : Int32)) (v := y0_89) (i := 0) (by decide) rfl (hb hby al5) ?_
    refine ak0 X94 hx (hb hby am5) rfl ?_
    by_cases hc99 : y0_89 = y2_89
    · refine au0 X94 hx (pc' := 129) (hb hby aw2) (teq hc99).1 ?_
      refine aq1 X94 hx (hb hby ak2) rfl (l' := #[.val (.ref o0), .val (.ref o1), .val (.ref b68), .val (.int (1 : Int32)), .val (.ref b68), .val (.int (3 : Int32)), .val (.int (3 : Int32)), .val (.int y2_89)]) rfl ?_
      refine am1 X94 hx (pc' := 93) (hb hby al2) ?_
      refine ak0 X94 hx (hb hby ab2) rfl ?_
      refine ak0 X94 hx (hb hby ac2) rfl ?_
      refine au0 X94 hx (pc' := 135) (hb hby ad2) (flt (by decide : ¬ ((3 : Int32) < (3 : Int32)))).2.1 ?_
      refine ae0 X94 hx (hb hby ah3) rfl ?_
      refine ab0 X94 hx (hb hby ai3) rfl rfl ?_
      refine ah1 X94 hx hZ e94 A94 (z := (3 : Int32)) rfl (hb hby aj3) ?_
      refine au0 X94 hx (pc' := 145) (hb hby ak3) (feq (by decide : ¬ ((1 : Int32) = (3 : Int32)))).2 ?_
      refine ab0 X94 hx (hb hby an5) rfl rfl ?_
      refine ae0 X94 hx (hb hby ao5) rfl ?_
      refine af1 X94 hx hZ (y := (⟨z_s5, "copyOf", "([II)[I"⟩ : MethodName)) hown (z_w hw 199 rfl) (z_w hw 200 rfl) (z_w hw 112 rfl) (z_w hw 201 rfl) (du3 l Z a0 hw [] b68 y0_89 y1_89 y2_89 h94 n0 (Nat.le_trans Z0 K94.1) A94) 0 e94 hml' (argsL := [(.ref b68), (.int (1 : Int32))]) (rest := []) (lenOf ah2 rfl) (hb hby ap5) (fun r100 T100 L100 X100 hQ100 => ?_)
      obtain ⟨br_100, rfl, Nq100, Kq100, af8, dl4, f0_100⟩ := hQ100
      have N100 := Fr.app N94 Nq100
      have G101 := (((G74.ext E68).keep Kq89).wr W94)
      have ne102 := z_nc G101.lt af8
      have G103 := (((G76.ext E68).keep Kq89).wr W94)
      have ne104 := z_nc G103.lt af8
      have G105 := (((G78.ext E68).keep Kq89 (ninS ne77 nin0)).other W94 ne77)
      have ne106 := z_nc G105.lt af8
      have G107 := (((G80.ext E68).keep Kq89 (ninS ne79 nin0)).other W94 ne79)
      have ne108 := z_nc G107.lt af8
      have G109 := (((G82.ext E68).keep Kq89 (ninS ne81 nin0)).other W94 ne81)
      have ne110 := z_nc G109.lt af8
      have ne111 := z_nc A94.lt af8
      have G112 := (((G69.ext E68).keep Kq89 (ninS ne83 nin0)).other W94 ne83)
      have ne113 := z_nc G112.lt af8
      have G114 := (((G85.ext E68).keep Kq89).wr W94)
      have ne115 := z_nc G114.lt af8
      have G116 := (((G87.ext E68).keep Kq89 (ninS ne86 nin0)).other W94 ne86)
      have ne117 := z_nc G116.lt af8
      have ec0 := Nat.le_trans K94.1 af8
      have Sw118 := Safe.keep Kq100 sf0 hC.1 Sw95
      have Sw119 := Safe.keep Kq100 sf0 hC.1 Sw96
      have Sw120 := Safe.keep Kq100 sf0 hC.1 Sw97
      have hC := hC.trans (CHr.keep Kq100 sf0 hC.1)
      have K100 := Keep.trans K94 Kq100 all0
      show ac0 p e below P (T100.setTop (mkF m 150 #[.val (.ref o0), .val (.ref o1), .val (.ref b68), .val (.int (1 : Int32)), .val (.ref b68), .val (.int (3 : Int32)), .val (.int (3 : Int32)), .val (.int y2_89)] [(.ref br_100)]))
      have G121 := (Nat.le_trans (Nat.le_trans (Nat.le_trans (Nat.le_trans (Nat.le_trans (Nat.le_trans hk22 Kq28.1) Kq48.1) E68.1) Kq89.1) (Keep.of_wr W94).1) Kq100.1)
      have hfin : (fun (v : Option Value) (h : Heap) (L : List Loc) => ∃ (br : Addr) (xr : List Int32), v = some (.ref br) ∧ Fr n0 L ∧ Keep h0 h [] ∧ h0.size ≤ br ∧ n0 ≤ br ∧ ag0 Z h br xr ∧ ((xr.length = 0 ↔ [c0, c1, c2].length = 0) ∧ xr.length ≤ 4)) (some (.ref br_100)) T100.heap _ := ⟨br_100, [y0_89], rfl, N100, K100, ec0, dl4, f0_100, ⟨by simp, by simp⟩⟩
      refine ab5 X100 hS G121 rfl hZ hEL hC hx hlk hP rfl rfl hrt (hb hby al3) (by decide) (by decide) ?_
      exact hfin
    · refine av0 X94 hx (hb hby aw2) (feq hc99).1 ?_
      refine ab0 X94 hx (hb hby az3) rfl rfl ?_
      refine ae0 X94 hx (hb hby aa4) rfl ?_
      refine aq1 X94 hx (hb hby ab4) rfl (l' := #[.val (.ref o0), .val (.ref o1), .val (.ref b68), .val (.int (2 : Int32)), .val (.ref b68), .val (.int (3 : Int32)), .val (.int (2 : Int32)), .val (.int y2_89)]) rfl ?_
      refine ak0 X94 hx (hb hby ac4) rfl ?_
      refine ae2 X94 hx hZ e94 A94 (j := (1 : Int32)) (v := y2_89) (i := 1) (by decide) (by show (1 : Nat) < 3; decide) (hb hby ad4) (fun T123 h123 X123 e123 W123 B123 => ?_)
      have A123 : ag0 Z h123 b68 [y0_89, y2_89, y2_89] := B123
      have Sf123 := (A94.safe (EL := consts_1) hZ.alike)
      have Sw124 := Safe.wr W123 Sf123 hC.1 Sw95
      have Sw125 := Safe.wr W123 Sf123 hC.1 Sw96
      have Sw126 := Safe.wr W123 Sf123 hC.1 Sw97
      have hC := hC.trans (CHr.wr W123 Sf123 hC.1)
      have N123 := Fr.snoc X123 N94 ag3
      have K123 := Keep.wr K94 W123 (Or.inr an4)
      refine aq1 X123 hx (hb hby ak2) rfl (l' := #[.val (.ref o0), .val (.ref o1), .val (.ref b68), .val (.int (2 : Int32)), .val (.ref b68), .val (.int (3 : Int32)), .val (.int (3 : Int32)), .val (.int y2_89)]) rfl ?_
      refine am1 X123 hx (pc' := 93) (hb hby al2) ?_
      refine ak0 X123 hx (hb hby ab2) rfl ?_
      refine ak0 X123 hx (hb hby ac2) rfl ?_
      refine au0 X123 hx (pc' := 135) (hb hby ad2) (flt (by decide : ¬ ((3 : Int32) < (3 : Int32)))).2.1 ?_
      refine ae0 X123 hx (hb hby ah3) rfl ?_
      refine ab0 X123 hx (hb hby ai3) rfl rfl ?_
      refine ah1 X123 hx hZ e123 A123 (z := (3 : Int32)) rfl (hb hby aj3) ?_
      refine au0 X123 hx (pc' := 145) (hb hby ak3) (feq (by decide : ¬ ((2 : Int32) = (3 : Int32)))).2 ?_
      refine ab0 X123 hx (hb hby an5) rfl rfl ?_
      refine ae0 X123 hx (hb hby ao5) rfl ?_
      refine af1 X123 hx hZ (y := (⟨z_s5, "copyOf", "([II)[I"⟩ : MethodName)) hown (z_w hw 199 rfl) (z_w hw 200 rfl) (z_w hw 112 rfl) (z_w hw 201 rfl) (cc5 l Z a0 hw [] b68 y0_89 y2_89 y2_89 h123 n0 (Nat.le_trans Z0 K123.1) A123) 0 e123 hml' (argsL := [(.ref b68), (.int (2 : Int32))]) (rest := []) (lenOf ah2 rfl) (hb hby ap5) (fun r127 T127 L127 X127 hQ127 => ?_)
      obtain ⟨br_127, rfl, Nq127, Kq127, ag8, dm4, f0_127⟩ := hQ127
      have N127 := Fr.app N123 Nq127
      have G128 := ((((G74.ext E68).keep Kq89).wr W94).wr W123)
      have ne129 := z_nc G128.lt ag8
      have G130 := ((((G76.ext E68).keep Kq89).wr W94).wr W123)
      have ne131 := z_nc G130.lt ag8
      have G132 := ((((G78.ext E68).keep Kq89 (ninS ne77 nin0)).other W94 ne77).other W123 ne77)
      have ne133 := z_nc G132.lt ag8
      have G134 := ((((G80.ext E68).keep Kq89 (ninS ne79 nin0)).other W94 ne79).other W123 ne79)
      have ne135 := z_nc G134.lt ag8
      have G136 := ((((G82.ext E68).keep Kq89 (ninS ne81 nin0)).other W94 ne81).other W123 ne81)
      have ne137 := z_nc G136.lt ag8
      have ne138 := z_nc A123.lt ag8
      have G139 := ((((G69.ext E68).keep Kq89 (ninS ne83 nin0)).other W94 ne83).other W123 ne83)
      have ne140 := z_nc G139.lt ag8
      have G141 := ((((G85.ext E68).keep Kq89).wr W94).wr W123)
      have ne142 := z_nc G141.lt ag8
      have G143 := ((((G87.ext E68).keep Kq89 (ninS ne86 nin0)).other W94 ne86).other W123 ne86)
      have ne144 := z_nc G143.lt ag8
      have ed0 := Nat.le_trans K123.1 ag8
      have Sw145 := Safe.keep Kq127 sf0 hC.1 Sw124
      have Sw146 := Safe.keep Kq127 sf0 hC.1 Sw125
      have Sw147 := Safe.keep Kq127 sf0 hC.1 Sw126
      have hC := hC.trans (CHr.keep Kq127 sf0 hC.1)
      have K127 := Keep.trans K123 Kq127 all0
      show ac0 p e below P (T127.setTop (mkF m 150 #[.val (.ref o0), .val (.ref o1), .val (.ref b68), .val (.int (2 : Int32)), .val (.ref b68), .val (.int (3 : Int32)), .val (.int (3 : Int32)), .val (.int y2_89)] [(.ref br_127)]))
      have G148 := (Nat.le_trans (Nat.le_trans (Nat.le_trans (Nat.le_trans (Nat.le_trans (Nat.le_trans (Nat.le_trans hk22 Kq28.1) Kq48.1) E68.1) Kq89.1) (Keep.of_wr W94).1) (Keep.of_wr W123).1) Kq127.1)
      have hfin : (fun (v : Option Value) (h : Heap) (L : List Loc) => ∃ (br : Addr) (xr : List Int32), v = some (.ref br) ∧ Fr n0 L ∧ Keep h0 h [] ∧ h0.size ≤ br ∧ n0 ≤ br ∧ ag0 Z h br xr ∧ ((xr.length = 0 ↔ [c0, c1, c2].length = 0) ∧ xr.length ≤ 4)) (some (.ref br_127)) T127.heap _ := ⟨br_127, [y0_89, y2_89], rfl, N127, K127, ed0, dm4, f0_127, ⟨by simp, by simp⟩⟩
      refine ab5 X127 hS G148 rfl hZ hEL hC hx hlk hP rfl rfl hrt (hb hby al3) (by decide) (by decide) ?_
      exact hfin
  · refine av0 X94 hx (hb hby aw2) (feq hc98).1 ?_
    refine ab0 X94 hx (hb hby az3) rfl rfl ?_
    refine ae0 X94 hx (hb hby aa4) rfl ?_
    refine aq1 X94 hx (hb hby ab4) rfl (l' := #[.val (.ref o0), .val (.ref o1), .val (.ref b68), .val (.int (2 : Int32)), .val (.ref b68), .val (.int (3 : Int32)), .val (.int (1 : Int32)), .val (.int y1_89)]) rfl ?_
    refine ak0 X94 hx (hb hby ac4) rfl ?_
    refine ae2 X94 hx hZ e94 A94 (j := (1 : Int32)) (v := y1_89) (i := 1) (by decide) (by show (1 : Nat) < 3; decide) (hb hby ad4) (fun T150 h150 X150 e150 W150 B150 => ?_)
    have A150 : ag0 Z h150 b68 [y0_89, y1_89, y2_89] := B150
    have Sf150 := (A94.safe (EL := consts_1) hZ.alike)
    have Sw151 := Safe.wr W150 Sf150 hC.1 Sw95
    have Sw152 := Safe.wr W150 Sf150 hC.1 Sw96
    have Sw153 := Safe.wr W150 Sf150 hC.1 Sw97
    have hC := hC.trans (CHr.wr W150 Sf150 hC.1)
    have N150 := Fr.snoc X150 N94 ag3
    have K150 := Keep.wr K94 W150 (Or.inr an4)
    refine aq1 X150 hx (hb hby ak2) rfl (l' := #[.val (.ref o0), .val (.ref o1), .val (.ref b68), .val (.int (2 : Int32)), .val (.ref b68), .val (.int (3 : Int32)), .val (.int (2 : Int32)), .val (.int y1_89)]) rfl ?_
    refine am1 X150 hx (pc' := 93) (hb hby al2) ?_
    refine ak0 X150 hx (hb hby ab2) rfl ?_
    refine ak0 X150 hx (hb hby ac2) rfl ?_
    refine av0 X150 hx (hb hby ad2) (tlt (by decide : (2 : Int32) < (3 : Int32))).2.1 ?_
    refine az2 X150 hx (hb hby at3) rfl rfl ?_
    refine ak0 X150 hx (hb hby au3) rfl ?_
    refine al1 X150 hx hZ e150 A150 (j := (2 : Int32)) (v := y2_89) (i := 2) (by decide) rfl (hb hby av3) ?_
    refine ai1 X150 hx (hb hby aw3) (l' := #[.val (.ref o0), .val (.ref o1), .val (.ref b68), .val (.int (2 : Int32)), .val (.ref b68), .val (.int (3 : Int32)), .val (.int (2 : Int32)), .val (.int y2_89)]) rfl ?_
    refine ae0 X150 hx (hb hby ax3) rfl ?_
    refine aa3 X150 hx (hb hby ay3) ((if0 _ _).trans (feq (by decide : ¬ ((2 : Int32) = (0 : Int32)))).1) ?_
    refine ab0 X150 hx (hb hby ah5) rfl rfl ?_
    refine ae0 X150 hx (hb hby ai5) rfl ?_
    refine am0 X150 hx (hb hby aj5) (z := (1 : Int32)) rfl ?_
    refine ar2 X150 hx (hb hby ak5) (z := (1 : Int32)) rfl ?_
    refine al1 X150 hx hZ e150 A150 (j := (1 : Int32)) (v := y1_89) (i := 1) (by decide) rfl (hb hby al5) ?_
    refine ak0 X150 hx (hb hby am5) rfl ?_
    by_cases hc154 : y1_89 = y2_89
    · refine au0 X150 hx (pc' := 129) (hb hby aw2) (teq hc154).1 ?_
      refine aq1 X150 hx (hb hby ak2) rfl (l' := #[.val (.ref o0), .val (.ref o1), .val (.ref b68), .val (.int (2 : Int32)), .val (.ref b68), .val (.int (3 : Int32)), .val (.int (3 : Int32)), .val (.int y2_89)]) rfl ?_
      refine am1 X150 hx (pc' := 93) (hb hby al2) ?_
      refine ak0 X150 hx (hb hby ab2) rfl ?_
      refine ak0 X150 hx (hb hby ac2) rfl ?_
      refine au0 X150 hx (pc' := 135) (hb hby ad2) (flt (by decide : ¬ ((3 : Int32) < (3 : Int32)))).2.1 ?_
      refine ae0 X150 hx (hb hby ah3) rfl ?_
      refine ab0 X150 hx (hb hby ai3) rfl rfl ?_
      refine ah1 X150 hx hZ e150 A150 (z := (3 : Int32)) rfl (hb hby aj3) ?_
      refine au0 X150 hx (pc' := 145) (hb hby ak3) (feq (by decide : ¬ ((2 : Int32) = (3 : Int32)))).2 ?_
      refine ab0 X150 hx (hb hby an5) rfl rfl ?_
      refine ae0 X150 hx (hb hby ao5) rfl ?_
      refine af1 X150 hx hZ (y := (⟨z_s5, "copyOf", "([II)[I"⟩ : MethodName)) hown (z_w hw 199 rfl) (z_w hw 200 rfl) (z_w hw 112 rfl) (z_w hw 201 rfl) (cc5 l Z a0 hw [] b68 y0_89 y1_89 y2_89 h150 n0 (Nat.le_trans Z0 K150.1) A150) 0 e150 hml' (argsL := [(.ref b68), (.int (2 : Int32))]) (rest := []) (lenOf ah2 rfl) (hb hby ap5) (fun r155 T155 L155 X155 hQ155 => ?_)
      obtain ⟨br_155, rfl, Nq155, Kq155, ah8, dn4, f0_155⟩ := hQ155
      have N155 := Fr.app N150 Nq155
      have G156 := ((((G74.ext E68).keep Kq89).wr W94).wr W150)
      have ne157 := z_nc G156.lt ah8
      have G158 := ((((G76.ext E68).keep Kq89).wr W94).wr W150)
      have ne159 := z_nc G158.lt ah8
      have G160 := ((((G78.ext E68).keep Kq89 (ninS ne77 nin0)).other W94 ne77).other W150 ne77)
      have ne161 := z_nc G160.lt ah8
      have G162 := ((((G80.ext E68).keep Kq89 (ninS ne79 nin0)).other W94 ne79).other W150 ne79)
      have ne163 := z_nc G162.lt ah8
      have G164 := ((((G82.ext E68).keep Kq89 (ninS ne81 nin0)).other W94 ne81).other W150 ne81)
      have ne165 := z_nc G164.lt ah8
      have ne166 := z_nc A150.lt ah8
      have G167 := ((((G69.ext E68).keep Kq89 (ninS ne83 nin0)).other W94 ne83).other W150 ne83)
      have ne168 := z_nc G167.lt ah8
      have G169 := ((((G85.ext E68).keep Kq89).wr W94).wr W150)
      have ne170 := z_nc G169.lt ah8
      have G171 := ((((G87.ext E68).keep Kq89 (ninS ne86 nin0)).other W94 ne86).other W150 ne86)
      have ne172 := z_nc G171.lt ah8
      have ee0 := Nat.le_trans K150.1 ah8
      have Sw173 := Safe.keep Kq155 sf0 hC.1 Sw151
      have Sw174 := Safe.keep Kq155 sf0 hC.1 Sw152
      have Sw175 := Safe.keep Kq155 sf0 hC.1 Sw153
      have hC := hC.trans (CHr.keep Kq155 sf0 hC.1)
      have K155 := Keep.trans K150 Kq155 all0
      show ac0 p e below P (T155.setTop (mkF m 150 #[.val (.ref o0), .val (.ref o1), .val (.ref b68), .val (.int (2 : Int32)), .val (.ref b68), .val (.int (3 : Int32)), .val (.int (3 : Int32)), .val (.int y2_89)] [(.ref br_155)]))
      have G176 := (Nat.le_trans (Nat.le_trans (Nat.le_trans (Nat.le_trans (Nat.le_trans (Nat.le_trans (Nat.le_trans hk22 Kq28.1) Kq48.1) E68.1) Kq89.1) (Keep.of_wr W94).1) (Keep.of_wr W150).1) Kq155.1)
      have hfin : (fun (v : Option Value) (h : Heap) (L : List Loc) => ∃ (br : Addr) (xr : List Int32), v = some (.ref br) ∧ Fr n0 L ∧ Keep h0 h [] ∧ h0.size ≤ br ∧ n0 ≤ br ∧ ag0 Z h br xr ∧ ((xr.length = 0 ↔ [c0, c1, c2].length = 0) ∧ xr.length ≤ 4)) (some (.ref br_155)) T155.heap _ := ⟨br_155, [y0_89, y1_89], rfl, N155, K155, ee0, dn4, f0_155, ⟨by simp, by simp⟩⟩
      refine ab5 X155 hS G176 rfl hZ hEL hC hx hlk hP rfl rfl hrt (hb hby al3) (by decide) (by decide) ?_
      exact hfin
    · refine av0 X150 hx (hb hby aw2) (feq hc154).1 ?_
      refine ab0 X150 hx (hb hby az3) rfl rfl ?_
      refine ae0 X150 hx (hb hby aa4) rfl ?_
      refine aq1 X150 hx (hb hby ab4) rfl (l' := #[.val (.ref o0), .val (.ref o1), .val (.ref b68), .val (.int (3 : Int32)), .val (.ref b68), .val (.int (3 : Int32)), .val (.int (2 : Int32)), .val (.int y2_89)]) rfl ?_
      refine ak0 X150 hx (hb hby ac4) rfl ?_
      refine ae2 X150 hx hZ e150 A150 (j := (2 : Int32)) (v := y2_89) (i := 2) (by decide) (by show (2 : Nat) < 3; decide) (hb hby ad4) (fun T178 h178 X178 e178 W178 B178 => ?_)
      have A178 : ag0 Z h178 b68 [y0_89, y1_89, y2_89] := B178
      have Sf178 := (A150.safe (EL := consts_1) hZ.alike)
      have Sw179 := Safe.wr W178 Sf178 hC.1 Sw151
      have Sw180 := Safe.wr W178 Sf178 hC.1 Sw152
      have Sw181 := Safe.wr W178 Sf178 hC.1 Sw153
      have hC := hC.trans (CHr.wr W178 Sf178 hC.1)
      have N178 := Fr.snoc X178 N150 ag3
      have K178 := Keep.wr K150 W178 (Or.inr an4)
      refine aq1 X178 hx (hb hby ak2) rfl (l' := #[.val (.ref o0), .val (.ref o1), .val (.ref b68), .val (.int (3 : Int32)), .val (.ref b68), .val (.int (3 : Int32)), .val (.int (3 : Int32)), .val (.int y2_89)]) rfl ?_
      refine am1 X178 hx (pc' := 93) (hb hby al2) ?_
      refine ak0 X178 hx (hb hby ab2) rfl ?_
      refine ak0 X178 hx (hb hby ac2) rfl ?_
      refine au0 X178 hx (pc' := 135) (hb hby ad2) (flt (by decide : ¬ ((3 : Int32) < (3 : Int32)))).2.1 ?_
      refine ae0 X178 hx (hb hby ah3) rfl ?_
      refine ab0 X178 hx (hb hby ai3) rfl rfl ?_
      refine ah1 X178 hx hZ e178 A178 (z := (3 : Int32)) rfl (hb hby aj3) ?_
      refine av0 X178 hx (hb hby ak3) (teq (by decide : (3 : Int32) = (3 : Int32))).2 ?_
      refine ab0 X178 hx (hb hby bk1) rfl rfl ?_
      refine am1 X178 hx (pc' := 150) (hb hby bl1) ?_
      have G182 := (Nat.le_trans (Nat.le_trans (Nat.le_trans (Nat.le_trans (Nat.le_trans (Nat.le_trans (Nat.le_trans hk22 Kq28.1) Kq48.1) E68.1) Kq89.1) (Keep.of_wr W94).1) (Keep.of_wr W150).1) (Keep.of_wr W178).1)
      have hfin : (fun (v : Option Value) (h : Heap) (L : List Loc) => ∃ (br : Addr) (xr : List Int32), v = some (.ref br) ∧ Fr n0 L ∧ Keep h0 h [] ∧ h0.size ≤ br ∧ n0 ≤ br ∧ ag0 Z h br xr ∧ ((xr.length = 0 ↔ [c0, c1, c2].length = 0) ∧ xr.length ≤ 4)) (some (.ref b68)) h178 _ := ⟨b68, [y0_89, y1_89, y2_89], rfl, N178, K178, an4, ag3, A178, ⟨by simp, by simp⟩⟩
      refine ab5 X178 hS G182 e178 hZ hEL hC hx hlk hP rfl rfl hrt (hb hby al3) (by decide) (by decide) ?_
      rw [e178]; exact hfin
set_option maxRecDepth 65536 in
set_option maxHeartbeats 40000000 in
theorem cn1 (l : Launch) (Z : State) (a0 : Array Value) (hw : ∀ d ∈ tables_1, d.before a0 Z = true) (ws : List Jvm.Cond) (o0 : Addr) (o1 : Addr) (n : Nat) (xs : List Int32) (ah0 : Addr) (aa0 : Int32) (h0 : Heap) (n0 : Nat) (Z0 : n0 ≤ h0.size) (E_o1 : Exa Z h0 o1 z_s1) (ac1 : Fld Z h0 o1 z_s1 "value" "[B" (.ref ah0)) (aa1 : Fld Z h0 o1 z_s1 "coder" "B" (.int (0 : Int32))) (af0 : Sta Z h0 z_s1 z_s8 "Z" (.int aa0)) (A_o0 : ag0 Z h0 o0 xs) (at0 : ao0 Z h0 ah0 n) (hnz : ¬ (aa0 = (0 : Int32))) (hn : bv2 n) (hlx : xs.length ≤ 4) (hnn : ∀ y ∈ xs, ¬ y < (0 : Int32)) :
    al9 l Z consts_1 (⟨z_s3, "distinct", "([ILjava/lang/String;)[I"⟩ : MethodName) prog_6_method_14_code 8 (some (.array .int)) ws ({ frames := 6, cells := 9, slots := 170, locals := 114 } : Room) #[(.ref o0), (.ref o1)] h0 (fun (v : Option Value) (h : Heap) (L : List Loc) => ∃ (br : Addr) (xr : List Int32), v = some (.ref br) ∧ Fr n0 L ∧ Keep h0 h [] ∧ h0.size ≤ br ∧ n0 ≤ br ∧ ag0 Z h br xr ∧ ((xr.length = 0 ↔ xs.length = 0) ∧ xr.length ≤ 4)) := by
  rcases ec2 hlx with rfl | ⟨c0, rfl⟩ | ⟨c0, c1, rfl⟩ | ⟨c0, c1, c2, rfl⟩ | ⟨c0, c1, c2, c3, rfl⟩
  · exact es1 l Z a0 hw ws o0 o1 n ah0 aa0 h0 n0 Z0 E_o1 ac1 aa1 af0 A_o0 at0 hnz hn
  · exact et1 l Z a0 hw ws o0 o1 n c0 ah0 aa0 h0 n0 Z0 E_o1 ac1 aa1 af0 A_o0 at0 hnz hn (hnn _ (by simp))
  · exact eu1 l Z a0 hw ws o0 o1 n c0 c1 ah0 aa0 h0 n0 Z0 E_o1 ac1 aa1 af0 A_o0 at0 hnz hn (hnn _ (by simp)) (hnn _ (by simp))
  · exact ew1 l Z a0 hw ws o0 o1 n c0 c1 c2 ah0 aa0 h0 n0 Z0 E_o1 ac1 aa1 af0 A_o0 at0 hnz hn (hnn _ (by simp)) (hnn _ (by simp)) (hnn _ (by simp))
  · exact ep1 l Z a0 hw ws o0 o1 n c0 c1 c2 c3 ah0 aa0 h0 n0 Z0 E_o1 ac1 aa1 af0 A_o0 at0 hnz hn (hnn _ (by simp)) (hnn _ (by simp)) (hnn _ (by simp)) (hnn _ (by simp))
theorem do4 : decode prog_6_method_1_code 0 = .ok (.aload_n 0, 1) := by decide +kernel
theorem dp4 : decode prog_6_method_1_code 1 = .ok (.invokespecial 1, 3) := by decide +kernel
theorem dq4 : decode prog_6_method_1_code 4 = .ok (.aload_n 0, 1) := by decide +kernel
theorem dr4 : decode prog_6_method_1_code 5 = .ok (.aload_n 1, 1) := by decide +kernel
theorem ds4 : decode prog_6_method_1_code 6 = .ok (.ldc 7, 2) := by decide +kernel
theorem dt4 : decode prog_6_method_1_code 8 = .ok (.invokestatic 9, 3) := by decide +kernel
theorem an3 : parseMethodDescriptor "([ILjava/lang/String;)[I" = some ⟨[(.array .int), (.object z_s1)], some (.array .int)⟩ := by decide +kernel
theorem cd8 : decode prog_6_method_1_code 11 = .ok (.putfield 15, 3) := by decide +kernel
theorem ce8 : decode prog_6_method_1_code 14 = .ok (.aload_n 0, 1) := by decide +kernel
theorem cf8 : decode prog_6_method_1_code 15 = .ok (.aload_n 2, 1) := by decide +kernel
theorem cg8 : decode prog_6_method_1_code 16 = .ok (.ldc 18, 2) := by decide +kernel
theorem ch8 : decode prog_6_method_1_code 18 = .ok (.invokestatic 9, 3) := by decide +kernel
theorem ci8 : decode prog_6_method_1_code 21 = .ok (.putfield 20, 3) := by decide +kernel
theorem cj8 : decode prog_6_method_1_code 24 = .ok (.aload_n 0, 1) := by decide +kernel
theorem ck8 : decode prog_6_method_1_code 25 = .ok (.aload_n 3, 1) := by decide +kernel
theorem cl8 : decode prog_6_method_1_code 26 = .ok (.ldc 22, 2) := by decide +kernel
theorem cm8 : decode prog_6_method_1_code 28 = .ok (.invokestatic 9, 3) := by decide +kernel
theorem cn8 : decode prog_6_method_1_code 31 = .ok (.putfield 24, 3) := by decide +kernel
theorem co8 : decode prog_6_method_1_code 34 = .ok (.aload_n 0, 1) := by decide +kernel
theorem cp8 : decode prog_6_method_1_code 35 = .ok (.aload 4, 2) := by decide +kernel
theorem cq8 : decode prog_6_method_1_code 37 = .ok (.ldc 26, 2) := by decide +kernel
theorem cr8 : decode prog_6_method_1_code 39 = .ok (.invokestatic 9, 3) := by decide +kernel
theorem cs8 : decode prog_6_method_1_code 42 = .ok (.putfield 28, 3) := by decide +kernel
theorem ct8 : decode prog_6_method_1_code 45 = .ok (.aload_n 0, 1) := by decide +kernel
theorem cu8 : decode prog_6_method_1_code 46 = .ok (.aload_n 3, 1) := by decide +kernel
theorem cv8 : decode prog_6_method_1_code 47 = .ok (.aload 4, 2) := by decide +kernel
theorem cw8 : decode prog_6_method_1_code 49 = .ok (.invokestatic 30, 3) := by decide +kernel
theorem cl4 : parseMethodDescriptor "([I[I)[I" = some ⟨[(.array .int), (.array .int)], some (.array .int)⟩ := by decide +kernel
theorem cx8 : decode prog_6_method_1_code 52 = .ok (.ldc 34, 2) := by decide +kernel
theorem cy8 : decode prog_6_method_1_code 54 = .ok (.invokestatic 9, 3) := by decide +kernel
theorem cz8 : decode prog_6_method_1_code 57 = .ok (.putfield 36, 3) := by decide +kernel
theorem c9 : decode prog_6_method_1_code 60 = .ok (.return_, 1) := by decide +kernel
theorem ex1 (m : MethodId) (o0 : Addr) (o1 : Addr) (o2 : Addr) (o3 : Addr) (o4 : Addr) : entryFrame m #[(.ref o0), (.ref o1), (.ref o2), (.ref o3), (.ref o4)] 5 = mkF m 0 #[.val (.ref o0), .val (.ref o1), .val (.ref o2), .val (.ref o3), .val (.ref o4)] [] := by first | (simp [entryFrame, mkF, argsToLocals, Value.category]; done) | rfl
set_option maxRecDepth 65536 in
set_option maxHeartbeats 40000000 in
theorem ee2 (l : Launch) (Z : State) (a0 : Array Value) (hw : ∀ d ∈ tables_1, d.before a0 Z = true) (ws : List Jvm.Cond) (o0 : Addr) (o1 : Addr) (o2 : Addr) (o3 : Addr) (o4 : Addr) (xs1 : List Int32) (xs2 : List Int32) (xs3 : List Int32) (xs4 : List Int32) (aa0 : Int32) (h0 : Heap) (n0 : Nat) (Z0 : n0 ≤ h0.size) (E_o0 : Exa Z h0 o0 z_s3) (cx3 : Fld Z h0 o0 z_s3 "reads" "[I" .null) (ci1 : Fld Z h0 o0 z_s3 "writes" "[I" .null) (du4 : Fld Z h0 o0 z_s3 "locks" "[I" .null) (cf6 : Fld Z h0 o0 z_s3 "unlocks" "[I" .null) (bz7 : Fld Z h0 o0 z_s3 "mutexes" "[I" .null) (af0 : Sta Z h0 z_s1 z_s8 "Z" (.int aa0)) (A_o1 : ag0 Z h0 o1 xs1) (A_o2 : ag0 Z h0 o2 xs2) (A_o3 : ag0 Z h0 o3 xs3) (A_o4 : ag0 Z h0 o4 xs4) (ab1 : n0 ≤ o0) (az1 : o0 ≠ o1) (cy3 : o0 ≠ o2) (cz3 : o0 ≠ o3) (c4 : o0 ≠ o4) (hnz : ¬ (aa0 = (0 : Int32))) (hl1 : xs1.length ≤ 2) (hl2 : xs2.length ≤ 2) (hl3 : xs3.length ≤ 2) (hl4 : xs4.length ≤ 2) (hm1 : ∀ y ∈ xs1, ¬ y < (0 : Int32)) (hm2 : ∀ y ∈ xs2, ¬ y < (0 : Int32)) (hm3 : ∀ y ∈ xs3, ¬ y < (0 : Int32)) (hm4 : ∀ y ∈ xs4, ¬ y < (0 : Int32)) :
    al9 l Z consts_1 (⟨z_s3, "<init>", "([I[I[I[I)V"⟩ : MethodName) prog_6_method_1_code 5 none ws ({ frames := 7, cells := 58, slots := 1100, locals := 134 } : Room) #[(.ref o0), (.ref o1), (.ref o2), (.ref o3), (.ref o4)] h0 (fun (v : Option Value) (h : Heap) (L : List Loc) => ∃ (b1 b2 b5 : Addr) (x1 x2 x5 : List Int32), v = none ∧ Fr n0 L ∧ Keep h0 h [o0] ∧ Exa Z h o0 z_s3 ∧ Fld Z h o0 z_s3 "reads" "[I" (.ref b1) ∧ Fld Z h o0 z_s3 "writes" "[I" (.ref b2) ∧ Fld Z h o0 z_s3 "mutexes" "[I" (.ref b5) ∧ ag0 Z h b1 x1 ∧ ag0 Z h b2 x2 ∧ ag0 Z h b5 x5 ∧ ((x1.length = 0 ↔ xs1.length = 0) ∧ x1.length ≤ 4) ∧ ((x2.length = 0 ↔ xs2.length = 0) ∧ x2.length ≤ 4) ∧ ((x5.length = 0 ↔ (xs3 ++ xs4).length = 0) ∧ x5.length ≤ 4)) := by
  refine bo1 (plainFor_of_name an0) ?_
  intro p e s m below meth c s₁ P vm0 k0 hx hby hml hrt hlk hown hnm hZ X0 e0 hS hk hC hP
  have N0 := Fr.nil n0
  have K0 := Keep.refl h0 [o0]
  have hml' : c.maxLocals = 5 := hml
  have hEL := bj7 hw
  refine ar0 (ex1 m o0 o1 o2 o3 o4) ?_
  show ac0 p e below P (s₁.setTop (mkF m 0 #[.val (.ref o0), .val (.ref o1), .val (.ref o2), .val (.ref o3), .val (.ref o4)] []))
  refine ab0 X0 hx (hb hby do4) rfl rfl ?_
  obtain ⟨T1, X1, e1, st1⟩ := initO X0 hx hZ hown (z_w hw 12 rfl) (z_w hw 13 rfl) (z_w hw 14 rfl) e0 (g := (mkF m 1 #[.val (.ref o0), .val (.ref o1), .val (.ref o2), .val (.ref o3), .val (.ref o4)] [(.ref o0)])) rfl (by rw [hml']; rfl) rfl (hb hby dp4) (by decide) (W := 0) (by show 2 * 0 + _ ≤ _; exact Nat.le_of_eq rfl) (by decide)
  refine ae1 (fun _ => st1 _) ?_
  show ac0 p e below P (T1.setTop (mkF m 4 #[.val (.ref o0), .val (.ref o1), .val (.ref o2), .val (.ref o3), .val (.ref o4)] []))
  refine ab0 X1 hx (hb hby dq4) rfl rfl ?_
  refine ab0 X1 hx (hb hby dr4) rfl rfl ?_
  have Sw3 := (Safe.exa (EL := consts_1) hZ.alike E_o0 (by decide) (by decide))
  obtain ⟨a2, T2, h2, k2, b2, c2, X2, e2, E2, hS, hk2, hZ, hown, EA2, FC2, FV2, VV2, -, -, hC2, Li2, Ne2, st2⟩ := ldcCH X1 hx hZ hown (z_w hw 15 rfl) (bz2 hw) e1 hS hk hEL (List.mem_of_getElem? (i := 0) rfl) hC.1 (vs := [(.int (114 : Int32)), (.int (101 : Int32)), (.int (97 : Int32)), (.int (100 : Int32)), (.int (115 : Int32))]) (z := (5 : Int32)) ⟨by decide, by rfl⟩ (by decide) (by decide) (g := (mkF m 6 #[.val (.ref o0), .val (.ref o1), .val (.ref o2), .val (.ref o3), .val (.ref o4)] [(.ref o1), (.ref o0)])) rfl (hb hby ds4) (n := 20) (by decide) (by decide) (by decide) (by decide)
  have Sw4 := hC2.safe E_o0.lt Sw3
  have hC := hC.trans hC2
  have K2 := Keep.ext K0 E2
  have BV2 : ao0 Z h2 b2 5 := ao0.ofV VV2 (by decide) (by rfl)
  refine ae1 (fun _ => st2 _) ?_
  show ac0 p e below P (T2.setTop (mkF m 8 #[.val (.ref o0), .val (.ref o1), .val (.ref o2), .val (.ref o3), .val (.ref o4)] [(.ref a2), (.ref o1), (.ref o0)]))
  have G6 := (af0.ext E2)
  have G7 := (A_o1.ext E2)
  refine br5 X2 hS hk2 hEL hC hx hZ (y := (⟨z_s3, "distinct", "([ILjava/lang/String;)[I"⟩ : MethodName)) hown (z_w hw 23 rfl) (z_w hw 24 rfl) (z_w hw 8 rfl) (z_w hw 25 rfl) (by decide) (cn1 l Z a0 hw [] o1 a2 5 xs1 b2 aa0 h2 n0 (Nat.le_trans Z0 K2.1) EA2 FV2 FC2 G6 G7 BV2 hnz (Or.inl rfl) (Nat.le_trans hl1 (by decide)) hm1) 1 (by decide) (by decide) e2 (by decide) (by decide) (g := (mkF m 8 #[.val (.ref o0), .val (.ref o1), .val (.ref o2), .val (.ref o3), .val (.ref o4)] [(.ref a2), (.ref o1), (.ref o0)])) rfl (by rw [hml']; rfl) (argsL := [(.ref o1), (.ref a2)]) (rest := [(.ref o0)]) rfl (lenOf an3 rfl) rfl (by show 2 * 0 + _ ≤ _; exact Nat.le_of_eq rfl) (hb hby dt4) (fun r5 T5 L5 X5 hQ5 hS hZ hown hC => ?_)
  obtain ⟨br_5, xr_5, rfl, Nq5, Kq5, bm1, ea4, f0_5, eb3⟩ := hQ5
  have N5 := Fr.app N0 Nq5
  have ne8 := z_nc EA2.lt bm1
  have ne9 := z_nc BV2.lt bm1
  have G10 := (E_o0.ext E2)
  have ne11 := z_nc G10.lt bm1
  have ne12 := z_nc G7.lt bm1
  have G13 := (A_o2.ext E2)
  have ne14 := z_nc G13.lt bm1
  have G15 := (A_o3.ext E2)
  have ne16 := z_nc G15.lt bm1
  have G17 := (A_o4.ext E2)
  have ne18 := z_nc G17.lt bm1
  have ek4 := Nat.le_trans K2.1 bm1
  have K5 := Keep.trans K2 Kq5 all0
  have hk5 : T5.heap.size ≤ T5.heap.size := Nat.le_refl _
  show ac0 p e below P (T5.setTop (mkF m 11 #[.val (.ref o0), .val (.ref o1), .val (.ref o2), .val (.ref o3), .val (.ref o4)] [(.ref br_5), (.ref o0)]))
  have G19 := ((cx3.ext E2).keep Kq5 nin0)
  have G20 := (G10.keep Kq5)
  refine aj7 X5 hx hZ hown (host := "") (Or.inl (z_w hw 185 rfl)) Via.refl rfl G19 G20 (Or.inr ⟨(z_w hw 186 rfl), rfl, hnm⟩) (z_w hw 7 rfl) (ty := (.array .int)) (by decide) (hb hby cd8) (fun T21 h21 X21 e21 W21 => ?_)
  have Sf21 := (Safe.exa (EL := consts_1) hZ.alike G20 (by decide) (by decide))
  have hC := hC.trans (CHr.wr W21 Sf21 hC.1)
  have N21 := Fr.snoc X21 N5 ab1
  have K21 := Keep.wr K5 W21 (Or.inl (List.mem_of_getElem? (i := 0) rfl))
  have F21 := G19.same W21
  refine ab0 X21 hx (hb hby ce8) rfl rfl ?_
  refine ab0 X21 hx (hb hby cf8) rfl rfl ?_
  have G23 := (Nat.le_trans hk5 (Keep.of_wr W21).1)
  have G24 := (f0_5.other W21 ne11.symm)
  have Sw25 := (G24.safe (EL := consts_1) hZ.alike)
  have G26 := (G20.wr W21)
  have Sw27 := (Safe.exa (EL := consts_1) hZ.alike G26 (by decide) (by decide))
  obtain ⟨a22, T22, h22, k22, b22, c22, X22, e22, E22, hS, hk22, hZ, hown, EA22, FC22, FV22, VV22, -, -, hC22, Li22, Ne22, st22⟩ := ldcCH X21 hx hZ hown (z_w hw 187 rfl) (bz2 hw) e21 hS G23 hEL (List.mem_of_getElem? (i := 1) rfl) hC.1 (vs := [(.int (119 : Int32)), (.int (114 : Int32)), (.int (105 : Int32)), (.int (116 : Int32)), (.int (101 : Int32)), (.int (115 : Int32))]) (z := (6 : Int32)) ⟨by decide, by rfl⟩ (by decide) (by decide) (g := (mkF m 16 #[.val (.ref o0), .val (.ref o1), .val (.ref o2), .val (.ref o3), .val (.ref o4)] [(.ref o2), (.ref o0)])) rfl (hb hby cg8) (n := 24) (by decide) (by decide) (by decide) (by decide)
  have Sw28 := hC22.safe G24.lt Sw25
  have Sw29 := hC22.safe G26.lt Sw27
  have hC := hC.trans hC22
  have K22 := Keep.ext K21 E22
  have BV22 : ao0 Z h22 b22 6 := ao0.ofV VV22 (by decide) (by rfl)
  refine ae1 (fun _ => st22 _) ?_
  show ac0 p e below P (T22.setTop (mkF m 18 #[.val (.ref o0), .val (.ref o1), .val (.ref o2), .val (.ref o3), .val (.ref o4)] [(.ref a22), (.ref o2), (.ref o0)]))
  have G31 := (((an2 G6 Kq5 all0).wr W21).ext E22)
  have G32 := (((G13.keep Kq5 nin0).other W21 cy3.symm).ext E22)
  refine br5 X22 hS hk22 hEL hC hx hZ (y := (⟨z_s3, "distinct", "([ILjava/lang/String;)[I"⟩ : MethodName)) hown (z_w hw 23 rfl) (z_w hw 24 rfl) (z_w hw 8 rfl) (z_w hw 25 rfl) (by decide) (cn1 l Z a0 hw [] o2 a22 6 xs2 b22 aa0 h22 n0 (Nat.le_trans Z0 K22.1) EA22 FV22 FC22 G31 G32 BV22 hnz (Or.inr (Or.inl rfl)) (Nat.le_trans hl2 (by decide)) hm2) 1 (by decide) (by decide) e22 (by decide) (by decide) (g := (mkF m 18 #[.val (.ref o0), .val (.ref o1), .val (.ref o2), .val (.ref o3), .val (.ref o4)] [(.ref a22), (.ref o2), (.ref o0)])) rfl (by rw [hml']; rfl) (argsL := [(.ref o2), (.ref a22)]) (rest := [(.ref o0)]) rfl (lenOf an3 rfl) rfl (by show 2 * 0 + _ ≤ _; exact Nat.le_of_eq rfl) (hb hby ch8) (fun r30 T30 L30 X30 hQ30 hS hZ hown hC => ?_)
  obtain ⟨br_30, xr_30, rfl, Nq30, Kq30, aj8, er3, f0_30, eo2⟩ := hQ30
  have N30 := Fr.app N21 Nq30
  have G33 := (((EA2.keep Kq5).wr W21).ext E22)
  have ne34 := z_nc G33.lt aj8
  have ne35 := z_nc EA22.lt aj8
  have G36 := (((BV2.keep Kq5 nin0).other W21 (Ne.symm (Ne2 _ Sw4).2)).ext E22)
  have ne37 := z_nc G36.lt aj8
  have ne38 := z_nc BV22.lt aj8
  have G39 := (G24.ext E22)
  have ne40 := z_nc G39.lt aj8
  have G41 := (G26.ext E22)
  have ne42 := z_nc G41.lt aj8
  have G43 := (((G7.keep Kq5 nin0).other W21 az1.symm).ext E22)
  have ne44 := z_nc G43.lt aj8
  have ne45 := z_nc G32.lt aj8
  have G46 := (((G15.keep Kq5 nin0).other W21 cz3.symm).ext E22)
  have ne47 := z_nc G46.lt aj8
  have G48 := (((G17.keep Kq5 nin0).other W21 c4.symm).ext E22)
  have ne49 := z_nc G48.lt aj8
  have eb4 := Nat.le_trans K22.1 aj8
  have K30 := Keep.trans K22 Kq30 all0
  have hk30 : T30.heap.size ≤ T30.heap.size := Nat.le_refl _
  show ac0 p e below P (T30.setTop (mkF m 21 #[.val (.ref o0), .val (.ref o1), .val (.ref o2), .val (.ref o3), .val (.ref o4)] [(.ref br_30), (.ref o0)]))
  have G50 := (((((ci1.ext E2).keep Kq5 nin0).other W21 (Or.inr (slot_ne (Or.inr (z_w hw 189 rfl)) (Or.inr (z_w hw 186 rfl)) (by decide) (t := (.array .int)) (t' := (.array .int)) (by decide) (by decide)))).ext E22).keep Kq30 nin0)
  have G51 := (G41.keep Kq30)
  refine aj7 X30 hx hZ hown (host := "") (Or.inl (z_w hw 188 rfl)) Via.refl rfl G50 G51 (Or.inr ⟨(z_w hw 189 rfl), rfl, hnm⟩) (z_w hw 7 rfl) (ty := (.array .int)) (by decide) (hb hby ci8) (fun T52 h52 X52 e52 W52 => ?_)
  have Sf52 := (Safe.exa (EL := consts_1) hZ.alike G51 (by decide) (by decide))
  have hC := hC.trans (CHr.wr W52 Sf52 hC.1)
  have N52 := Fr.snoc X52 N30 ab1
  have K52 := Keep.wr K30 W52 (Or.inl (List.mem_of_getElem? (i := 0) rfl))
  have F52 := G50.same W52
  refine ab0 X52 hx (hb hby cj8) rfl rfl ?_
  refine ab0 X52 hx (hb hby ck8) rfl rfl ?_
  have G54 := (Nat.le_trans hk30 (Keep.of_wr W52).1)
  have G55 := (f0_30.other W52 ne42.symm)
  have Sw56 := (G55.safe (EL := consts_1) hZ.alike)
  have G57 := ((G39.keep Kq30 nin0).other W52 ne11.symm)
  have Sw58 := (G57.safe (EL := consts_1) hZ.alike)
  have G59 := (G51.wr W52)
  have Sw60 := (Safe.exa (EL := consts_1) hZ.alike G59 (by decide) (by decide))
  obtain ⟨a53, T53, h53, k53, b53, c53, X53, e53, E53, hS, hk53, hZ, hown, EA53, FC53, FV53, VV53, -, -, hC53, Li53, Ne53, st53⟩ := ldcCH X52 hx hZ hown (z_w hw 190 rfl) (bz2 hw) e52 hS G54 hEL (List.mem_of_getElem? (i := 2) rfl) hC.1 (vs := [(.int (108 : Int32)), (.int (111 : Int32)), (.int (99 : Int32)), (.int (107 : Int32)), (.int (115 : Int32))]) (z := (5 : Int32)) ⟨by decide, by rfl⟩ (by decide) (by decide) (g := (mkF m 26 #[.val (.ref o0), .val (.ref o1), .val (.ref o2), .val (.ref o3), .val (.ref o4)] [(.ref o3), (.ref o0)])) rfl (hb hby cl8) (n := 20) (by decide) (by decide) (by decide) (by decide)
  have Sw61 := hC53.safe G55.lt Sw56
  have Sw62 := hC53.safe G57.lt Sw58
  have Sw63 := hC53.safe G59.lt Sw60
  have hC := hC.trans hC53
  have K53 := Keep.ext K52 E53
  have BV53 : ao0 Z h53 b53 5 := ao0.ofV VV53 (by decide) (by rfl)
  refine ae1 (fun _ => st53 _) ?_
  show ac0 p e below P (T53.setTop (mkF m 28 #[.val (.ref o0), .val (.ref o1), .val (.ref o2), .val (.ref o3), .val (.ref o4)] [(.ref a53), (.ref o3), (.ref o0)]))
  have G65 := (((an2 G31 Kq30 all0).wr W52).ext E53)
  have G66 := (((G46.keep Kq30 nin0).other W52 cz3.symm).ext E53)
  refine br5 X53 hS hk53 hEL hC hx hZ (y := (⟨z_s3, "distinct", "([ILjava/lang/String;)[I"⟩ : MethodName)) hown (z_w hw 23 rfl) (z_w hw 24 rfl) (z_w hw 8 rfl) (z_w hw 25 rfl) (by decide) (cn1 l Z a0 hw [] o3 a53 5 xs3 b53 aa0 h53 n0 (Nat.le_trans Z0 K53.1) EA53 FV53 FC53 G65 G66 BV53 hnz (Or.inl rfl) (Nat.le_trans hl3 (by decide)) hm3) 1 (by decide) (by decide) e53 (by decide) (by decide) (g := (mkF m 28 #[.val (.ref o0), .val (.ref o1), .val (.ref o2), .val (.ref o3), .val (.ref o4)] [(.ref a53), (.ref o3), (.ref o0)])) rfl (by rw [hml']; rfl) (argsL := [(.ref o3), (.ref a53)]) (rest := [(.ref o0)]) rfl (lenOf an3 rfl) rfl (by show 2 * 0 + _ ≤ _; exact Nat.le_of_eq rfl) (hb hby cm8) (fun r64 T64 L64 X64 hQ64 hS hZ hown hC => ?_)
  obtain ⟨br_64, xr_64, rfl, Nq64, Kq64, ag6, es3, f0_64, ex4⟩ := hQ64
  have N64 := Fr.app N52 Nq64
  have G67 := (((G33.keep Kq30).wr W52).ext E53)
  have ne68 := z_nc G67.lt ag6
  have G69 := (((EA22.keep Kq30).wr W52).ext E53)
  have ne70 := z_nc G69.lt ag6
  have ne71 := z_nc EA53.lt ag6
  have G72 := (((G36.keep Kq30 nin0).other W52 (Ne.symm (Ne2 _ Sw4).2)).ext E53)
  have ne73 := z_nc G72.lt ag6
  have G74 := (((BV22.keep Kq30 nin0).other W52 (Ne.symm (Ne22 _ Sw29).2)).ext E53)
  have ne75 := z_nc G74.lt ag6
  have ne76 := z_nc BV53.lt ag6
  have G77 := (G55.ext E53)
  have ne78 := z_nc G77.lt ag6
  have G79 := (G57.ext E53)
  have ne80 := z_nc G79.lt ag6
  have G81 := (G59.ext E53)
  have ne82 := z_nc G81.lt ag6
  have G83 := (((G43.keep Kq30 nin0).other W52 az1.symm).ext E53)
  have ne84 := z_nc G83.lt ag6
  have G85 := (((G32.keep Kq30 nin0).other W52 cy3.symm).ext E53)
  have ne86 := z_nc G85.lt ag6
  have ne87 := z_nc G66.lt ag6
  have G88 := (((G48.keep Kq30 nin0).other W52 c4.symm).ext E53)
  have ne89 := z_nc G88.lt ag6
  have ec4 := Nat.le_trans K53.1 ag6
  have K64 := Keep.trans K53 Kq64 all0
  have hk64 : T64.heap.size ≤ T64.heap.size := Nat.le_refl _
  show ac0 p e below P (T64.setTop (mkF m 31 #[.val (.ref o0), .val (.ref o1), .val (.ref o2), .val (.ref o3), .val (.ref o4)] [(.ref br_64), (.ref o0)]))
  have G90 := ((((((((du4.ext E2).keep Kq5 nin0).other W21 (Or.inr (slot_ne (Or.inr (z_w hw 192 rfl)) (Or.inr (z_w hw 186 rfl)) (by decide) (t := (.array .int)) (t' := (.array .int)) (by decide) (by decide)))).ext E22).keep Kq30 nin0).other W52 (Or.inr (slot_ne (Or.inr (z_w hw 192 rfl)) (Or.inr (z_w hw 189 rfl)) (by decide) (t := (.array .int)) (t' := (.array .int)) (by decide) (by decide)))).ext E53).keep Kq64 nin0)
  have G91 := (G81.keep Kq64)
  refine aj7 X64 hx hZ hown (host := "") (Or.inl (z_w hw 191 rfl)) Via.refl rfl G90 G91 (Or.inr ⟨(z_w hw 192 rfl), rfl, hnm⟩) (z_w hw 7 rfl) (ty := (.array .int)) (by decide) (hb hby cn8) (fun T92 h92 X92 e92 W92 => ?_)
  have Sf92 := (Safe.exa (EL := consts_1) hZ.alike G91 (by decide) (by decide))
  have hC := hC.trans (CHr.wr W92 Sf92 hC.1)
  have N92 := Fr.snoc X92 N64 ab1
  have K92 := Keep.wr K64 W92 (Or.inl (List.mem_of_getElem? (i := 0) rfl))
  have F92 := G90.same W92
  refine ab0 X92 hx (hb hby co8) rfl rfl ?_
  refine az2 X92 hx (hb hby cp8) rfl rfl ?_
  have G94 := (Nat.le_trans hk64 (Keep.of_wr W92).1)
  have G95 := ((G77.keep Kq64 nin0).other W92 ne42.symm)
  have Sw96 := (G95.safe (EL := consts_1) hZ.alike)
  have G97 := ((G79.keep Kq64 nin0).other W92 ne11.symm)
  have Sw98 := (G97.safe (EL := consts_1) hZ.alike)
  have G99 := (f0_64.other W92 ne82.symm)
  have Sw100 := (G99.safe (EL := consts_1) hZ.alike)
  have G101 := (G91.wr W92)
  have Sw102 := (Safe.exa (EL := consts_1) hZ.alike G101 (by decide) (by decide))
  obtain ⟨a93, T93, h93, k93, b93, c93, X93, e93, E93, hS, hk93, hZ, hown, EA93, FC93, FV93, VV93, -, -, hC93, Li93, Ne93, st93⟩ := ldcCH X92 hx hZ hown (z_w hw 193 rfl) (bz2 hw) e92 hS G94 hEL (List.mem_of_getElem? (i := 3) rfl) hC.1 (vs := [(.int (117 : Int32)), (.int (110 : Int32)), (.int (108 : Int32)), (.int (111 : Int32)), (.int (99 : Int32)), (.int (107 : Int32)), (.int (115 : Int32))]) (z := (7 : Int32)) ⟨by decide, by rfl⟩ (by decide) (by decide) (g := (mkF m 37 #[.val (.ref o0), .val (.ref o1), .val (.ref o2), .val (.ref o3), .val (.ref o4)] [(.ref o4), (.ref o0)])) rfl (hb hby cq8) (n := 28) (by decide) (by decide) (by decide) (by decide)
  have Sw103 := hC93.safe G95.lt Sw96
  have Sw104 := hC93.safe G97.lt Sw98
  have Sw105 := hC93.safe G99.lt Sw100
  have Sw106 := hC93.safe G101.lt Sw102
  have hC := hC.trans hC93
  have K93 := Keep.ext K92 E93
  have BV93 : ao0 Z h93 b93 7 := ao0.ofV VV93 (by decide) (by rfl)
  refine ae1 (fun _ => st93 _) ?_
  show ac0 p e below P (T93.setTop (mkF m 39 #[.val (.ref o0), .val (.ref o1), .val (.ref o2), .val (.ref o3), .val (.ref o4)] [(.ref a93), (.ref o4), (.ref o0)]))
  have G108 := (((an2 G65 Kq64 all0).wr W92).ext E93)
  have G109 := (((G88.keep Kq64 nin0).other W92 c4.symm).ext E93)
  refine br5 X93 hS hk93 hEL hC hx hZ (y := (⟨z_s3, "distinct", "([ILjava/lang/String;)[I"⟩ : MethodName)) hown (z_w hw 23 rfl) (z_w hw 24 rfl) (z_w hw 8 rfl) (z_w hw 25 rfl) (by decide) (cn1 l Z a0 hw [] o4 a93 7 xs4 b93 aa0 h93 n0 (Nat.le_trans Z0 K93.1) EA93 FV93 FC93 G108 G109 BV93 hnz (Or.inr (Or.inr rfl)) (Nat.le_trans hl4 (by decide)) hm4) 1 (by decide) (by decide) e93 (by decide) (by decide) (g := (mkF m 39 #[.val (.ref o0), .val (.ref o1), .val (.ref o2), .val (.ref o3), .val (.ref o4)] [(.ref a93), (.ref o4), (.ref o0)])) rfl (by rw [hml']; rfl) (argsL := [(.ref o4), (.ref a93)]) (rest := [(.ref o0)]) rfl (lenOf an3 rfl) rfl (by show 2 * 0 + _ ≤ _; exact Nat.le_of_eq rfl) (hb hby cr8) (fun r107 T107 L107 X107 hQ107 hS hZ hown hC => ?_)
  obtain ⟨br_107, xr_107, rfl, Nq107, Kq107, ao4, ec3, f0_107, el4⟩ := hQ107
  have N107 := Fr.app N92 Nq107
  have G110 := (((G67.keep Kq64).wr W92).ext E93)
  have ne111 := z_nc G110.lt ao4
  have G112 := (((G69.keep Kq64).wr W92).ext E93)
  have ne113 := z_nc G112.lt ao4
  have G114 := (((EA53.keep Kq64).wr W92).ext E93)
  have ne115 := z_nc G114.lt ao4
  have ne116 := z_nc EA93.lt ao4
  have G117 := (((G72.keep Kq64 nin0).other W92 (Ne.symm (Ne2 _ Sw4).2)).ext E93)
  have ne118 := z_nc G117.lt ao4
  have G119 := (((G74.keep Kq64 nin0).other W92 (Ne.symm (Ne22 _ Sw29).2)).ext E93)
  have ne120 := z_nc G119.lt ao4
  have G121 := (((BV53.keep Kq64 nin0).other W92 (Ne.symm (Ne53 _ Sw63).2)).ext E93)
  have ne122 := z_nc G121.lt ao4
  have ne123 := z_nc BV93.lt ao4
  have G124 := (G95.ext E93)
  have ne125 := z_nc G124.lt ao4
  have G126 := (G97.ext E93)
  have ne127 := z_nc G126.lt ao4
  have G128 := (G99.ext E93)
  have ne129 := z_nc G128.lt ao4
  have G130 := (G101.ext E93)
  have ne131 := z_nc G130.lt ao4
  have G132 := (((G83.keep Kq64 nin0).other W92 az1.symm).ext E93)
  have ne133 := z_nc G132.lt ao4
  have G134 := (((G85.keep Kq64 nin0).other W92 cy3.symm).ext E93)
  have ne135 := z_nc G134.lt ao4
  have G136 := (((G66.keep Kq64 nin0).other W92 cz3.symm).ext E93)
  have ne137 := z_nc G136.lt ao4
  have ne138 := z_nc G109.lt ao4
  have et3 := Nat.le_trans K93.1 ao4
  have K107 := Keep.trans K93 Kq107 all0
  have hk107 : T107.heap.size ≤ T107.heap.size := Nat.le_refl _
  show ac0 p e below P (T107.setTop (mkF m 42 #[.val (.ref o0), .val (.ref o1), .val (.ref o2), .val (.ref o3), .val (.ref o4)] [(.ref br_107), (.ref o0)]))
  have G139 := (((((((((((cf6.ext E2).keep Kq5 nin0).other W21 (Or.inr (slot_ne (Or.inr (z_w hw 195 rfl)) (Or.inr (z_w hw 186 rfl)) (by decide) (t := (.array .int)) (t' := (.array .int)) (by decide) (by decide)))).ext E22).keep Kq30 nin0).other W52 (Or.inr (slot_ne (Or.inr (z_w hw 195 rfl)) (Or.inr (z_w hw 189 rfl)) (by decide) (t := (.array .int)) (t' := (.array .int)) (by decide) (by decide)))).ext E53).keep Kq64 nin0).other W92 (Or.inr (slot_ne (Or.inr (z_w hw 195 rfl)) (Or.inr (z_w hw 192 rfl)) (by decide) (t := (.array .int)) (t' := (.array .int)) (by decide) (by decide)))).ext E93).keep Kq107 nin0)
  have G140 := (G130.keep Kq107)
  refine aj7 X107 hx hZ hown (host := "") (Or.inl (z_w hw 194 rfl)) Via.refl rfl G139 G140 (Or.inr ⟨(z_w hw 195 rfl), rfl, hnm⟩) (z_w hw 7 rfl) (ty := (.array .int)) (by decide) (hb hby cs8) (fun T141 h141 X141 e141 W141 => ?_)
  have Sf141 := (Safe.exa (EL := consts_1) hZ.alike G140 (by decide) (by decide))
  have hC := hC.trans (CHr.wr W141 Sf141 hC.1)
  have N141 := Fr.snoc X141 N107 ab1
  have K141 := Keep.wr K107 W141 (Or.inl (List.mem_of_getElem? (i := 0) rfl))
  have F141 := G139.same W141
  refine ab0 X141 hx (hb hby ct8) rfl rfl ?_
  refine ab0 X141 hx (hb hby cu8) rfl rfl ?_
  refine az2 X141 hx (hb hby cv8) rfl rfl ?_
  have G143 := ((G136.keep Kq107 nin0).other W141 cz3.symm)
  have G144 := ((G109.keep Kq107 nin0).other W141 c4.symm)
  refine af1 X141 hx hZ (y := (⟨z_s3, "concatenate", "([I[I)[I"⟩ : MethodName)) hown (z_w hw 196 rfl) (z_w hw 197 rfl) (z_w hw 8 rfl) (z_w hw 198 rfl) (ed2 l Z a0 hw [] o3 o4 xs3 xs4 h141 n0 (Nat.le_trans Z0 K141.1) G143 G144 hl3 hl4) 1 e141 hml' (argsL := [(.ref o3), (.ref o4)]) (rest := [(.ref o0)]) (lenOf cl4 rfl) (hb hby cw8) (fun r142 T142 L142 X142 hQ142 => ?_)
  obtain ⟨br_142, rfl, Nq142, Kq142, ae4, ed3, f0_142⟩ := hQ142
  have N142 := Fr.app N141 Nq142
  have G145 := ((G110.keep Kq107).wr W141)
  have ne146 := z_nc G145.lt ae4
  have G147 := ((G112.keep Kq107).wr W141)
  have ne148 := z_nc G147.lt ae4
  have G149 := ((G114.keep Kq107).wr W141)
  have ne150 := z_nc G149.lt ae4
  have G151 := ((EA93.keep Kq107).wr W141)
  have ne152 := z_nc G151.lt ae4
  have G153 := ((G117.keep Kq107 nin0).other W141 (Ne.symm (Ne2 _ Sw4).2))
  have ne154 := z_nc G153.lt ae4
  have G155 := ((G119.keep Kq107 nin0).other W141 (Ne.symm (Ne22 _ Sw29).2))
  have ne156 := z_nc G155.lt ae4
  have G157 := ((G121.keep Kq107 nin0).other W141 (Ne.symm (Ne53 _ Sw63).2))
  have ne158 := z_nc G157.lt ae4
  have G159 := ((BV93.keep Kq107 nin0).other W141 (Ne.symm (Ne93 _ Sw106).2))
  have ne160 := z_nc G159.lt ae4
  have G161 := (f0_107.other W141 ne131.symm)
  have ne162 := z_nc G161.lt ae4
  have G163 := ((G124.keep Kq107 nin0).other W141 ne42.symm)
  have ne164 := z_nc G163.lt ae4
  have G165 := ((G126.keep Kq107 nin0).other W141 ne11.symm)
  have ne166 := z_nc G165.lt ae4
  have G167 := ((G128.keep Kq107 nin0).other W141 ne82.symm)
  have ne168 := z_nc G167.lt ae4
  have G169 := (G140.wr W141)
  have ne170 := z_nc G169.lt ae4
  have G171 := ((G132.keep Kq107 nin0).other W141 az1.symm)
  have ne172 := z_nc G171.lt ae4
  have G173 := ((G134.keep Kq107 nin0).other W141 cy3.symm)
  have ne174 := z_nc G173.lt ae4
  have ne175 := z_nc G143.lt ae4
  have ne176 := z_nc G144.lt ae4
  have eu3 := Nat.le_trans K141.1 ae4
  have hC := hC.trans (CHr.keep Kq142 sf0 hC.1)
  have K142 := Keep.trans K141 Kq142 all0
  show ac0 p e below P (T142.setTop (mkF m 52 #[.val (.ref o0), .val (.ref o1), .val (.ref o2), .val (.ref o3), .val (.ref o4)] [(.ref br_142), (.ref o0)]))
  have G178 := (Nat.le_trans (Nat.le_trans hk107 (Keep.of_wr W141).1) Kq142.1)
  have G179 := (G161.keep Kq142 nin0)
  have Sw180 := (G179.safe (EL := consts_1) hZ.alike)
  have Sw181 := (f0_142.safe (EL := consts_1) hZ.alike)
  have G182 := (G163.keep Kq142 nin0)
  have Sw183 := (G182.safe (EL := consts_1) hZ.alike)
  have G184 := (G165.keep Kq142 nin0)
  have Sw185 := (G184.safe (EL := consts_1) hZ.alike)
  have G186 := (G167.keep Kq142 nin0)
  have Sw187 := (G186.safe (EL := consts_1) hZ.alike)
  have G188 := (G169.keep Kq142)
  have Sw189 := (Safe.exa (EL := consts_1) hZ.alike G188 (by decide) (by decide))
  obtain ⟨a177, T177, h177, k177, b177, c177, X177, e177, E177, hS, hk177, hZ, hown, EA177, FC177, FV177, VV177, -, -, hC177, Li177, Ne177, st177⟩ := ldcCH X142 hx hZ hown (z_w hw 205 rfl) (bz2 hw) rfl hS G178 hEL (List.mem_of_getElem? (i := 4) rfl) hC.1 (vs := [(.int (109 : Int32)), (.int (117 : Int32)), (.int (116 : Int32)), (.int (101 : Int32)), (.int (120 : Int32)), (.int (101 : Int32)), (.int (115 : Int32))]) (z := (7 : Int32)) ⟨by decide, by rfl⟩ (by decide) (by decide) (g := (mkF m 52 #[.val (.ref o0), .val (.ref o1), .val (.ref o2), .val (.ref o3), .val (.ref o4)] [(.ref br_142), (.ref o0)])) rfl (hb hby cx8) (n := 28) (by decide) (by decide) (by decide) (by decide)
  have Sw190 := hC177.safe G179.lt Sw180
  have Sw191 := hC177.safe f0_142.lt Sw181
  have Sw192 := hC177.safe G182.lt Sw183
  have Sw193 := hC177.safe G184.lt Sw185
  have Sw194 := hC177.safe G186.lt Sw187
  have Sw195 := hC177.safe G188.lt Sw189
  have hC := hC.trans hC177
  have K177 := Keep.ext K142 E177
  have BV177 : ao0 Z h177 b177 7 := ao0.ofV VV177 (by decide) (by rfl)
  refine ae1 (fun _ => st177 _) ?_
  show ac0 p e below P (T177.setTop (mkF m 54 #[.val (.ref o0), .val (.ref o1), .val (.ref o2), .val (.ref o3), .val (.ref o4)] [(.ref a177), (.ref br_142), (.ref o0)]))
  have G197 := ((an2 ((an2 G108 Kq107 all0).wr W141) Kq142 all0).ext E177)
  have G198 := (f0_142.ext E177)
  refine br5 X177 hS hk177 hEL hC hx hZ (y := (⟨z_s3, "distinct", "([ILjava/lang/String;)[I"⟩ : MethodName)) hown (z_w hw 23 rfl) (z_w hw 24 rfl) (z_w hw 8 rfl) (z_w hw 25 rfl) (by decide) (cn1 l Z a0 hw [] br_142 a177 7 (xs3 ++ xs4) b177 aa0 h177 n0 (Nat.le_trans Z0 K177.1) EA177 FV177 FC177 G197 G198 BV177 hnz (Or.inr (Or.inr rfl)) (by rw [List.length_append]; omega) (et0 hm3 hm4)) 1 (by decide) (by decide) e177 (by decide) (by decide) (g := (mkF m 54 #[.val (.ref o0), .val (.ref o1), .val (.ref o2), .val (.ref o3), .val (.ref o4)] [(.ref a177), (.ref br_142), (.ref o0)])) rfl (by rw [hml']; rfl) (argsL := [(.ref br_142), (.ref a177)]) (rest := [(.ref o0)]) rfl (lenOf an3 rfl) rfl (by show 2 * 0 + _ ≤ _; exact Nat.le_of_eq rfl) (hb hby cy8) (fun r196 T196 L196 X196 hQ196 hS hZ hown hC => ?_)
  obtain ⟨br_196, xr_196, rfl, Nq196, Kq196, ad3, ee3, f0_196, ef2⟩ := hQ196
  have N196 := Fr.app N142 Nq196
  have ne199 := z_nc EA177.lt ad3
  have G200 := ((G145.keep Kq142).ext E177)
  have ne201 := z_nc G200.lt ad3
  have G202 := ((G147.keep Kq142).ext E177)
  have ne203 := z_nc G202.lt ad3
  have G204 := ((G149.keep Kq142).ext E177)
  have ne205 := z_nc G204.lt ad3
  have G206 := ((G151.keep Kq142).ext E177)
  have ne207 := z_nc G206.lt ad3
  have ne208 := z_nc BV177.lt ad3
  have G209 := ((G153.keep Kq142 nin0).ext E177)
  have ne210 := z_nc G209.lt ad3
  have G211 := ((G155.keep Kq142 nin0).ext E177)
  have ne212 := z_nc G211.lt ad3
  have G213 := ((G157.keep Kq142 nin0).ext E177)
  have ne214 := z_nc G213.lt ad3
  have G215 := ((G159.keep Kq142 nin0).ext E177)
  have ne216 := z_nc G215.lt ad3
  have G217 := (G179.ext E177)
  have ne218 := z_nc G217.lt ad3
  have ne219 := z_nc G198.lt ad3
  have G220 := (G182.ext E177)
  have ne221 := z_nc G220.lt ad3
  have G222 := (G184.ext E177)
  have ne223 := z_nc G222.lt ad3
  have G224 := (G186.ext E177)
  have ne225 := z_nc G224.lt ad3
  have G226 := (G188.ext E177)
  have ne227 := z_nc G226.lt ad3
  have G228 := ((G171.keep Kq142 nin0).ext E177)
  have ne229 := z_nc G228.lt ad3
  have G230 := ((G173.keep Kq142 nin0).ext E177)
  have ne231 := z_nc G230.lt ad3
  have G232 := ((G143.keep Kq142 nin0).ext E177)
  have ne233 := z_nc G232.lt ad3
  have G234 := ((G144.keep Kq142 nin0).ext E177)
  have ne235 := z_nc G234.lt ad3
  have ev3 := Nat.le_trans K177.1 ad3
  have K196 := Keep.trans K177 Kq196 all0
  have hk196 : T196.heap.size ≤ T196.heap.size := Nat.le_refl _
  show ac0 p e below P (T196.setTop (mkF m 57 #[.val (.ref o0), .val (.ref o1), .val (.ref o2), .val (.ref o3), .val (.ref o4)] [(.ref br_196), (.ref o0)]))
  have G236 := (((((((((((((((bz7.ext E2).keep Kq5 nin0).other W21 (Or.inr (slot_ne (Or.inr (z_w hw 207 rfl)) (Or.inr (z_w hw 186 rfl)) (by decide) (t := (.array .int)) (t' := (.array .int)) (by decide) (by decide)))).ext E22).keep Kq30 nin0).other W52 (Or.inr (slot_ne (Or.inr (z_w hw 207 rfl)) (Or.inr (z_w hw 189 rfl)) (by decide) (t := (.array .int)) (t' := (.array .int)) (by decide) (by decide)))).ext E53).keep Kq64 nin0).other W92 (Or.inr (slot_ne (Or.inr (z_w hw 207 rfl)) (Or.inr (z_w hw 192 rfl)) (by decide) (t := (.array .int)) (t' := (.array .int)) (by decide) (by decide)))).ext E93).keep Kq107 nin0).other W141 (Or.inr (slot_ne (Or.inr (z_w hw 207 rfl)) (Or.inr (z_w hw 195 rfl)) (by decide) (t := (.array .int)) (t' := (.array .int)) (by decide) (by decide)))).keep Kq142 nin0).ext E177).keep Kq196 nin0)
  have G237 := (G226.keep Kq196)
  refine aj7 X196 hx hZ hown (host := "") (Or.inl (z_w hw 206 rfl)) Via.refl rfl G236 G237 (Or.inr ⟨(z_w hw 207 rfl), rfl, hnm⟩) (z_w hw 7 rfl) (ty := (.array .int)) (by decide) (hb hby cz8) (fun T238 h238 X238 e238 W238 => ?_)
  have Sf238 := (Safe.exa (EL := consts_1) hZ.alike G237 (by decide) (by decide))
  have hC := hC.trans (CHr.wr W238 Sf238 hC.1)
  have N238 := Fr.snoc X238 N196 ab1
  have K238 := Keep.wr K196 W238 (Or.inl (List.mem_of_getElem? (i := 0) rfl))
  have F238 := G236.same W238
  have G239 := (Nat.le_trans hk196 (Keep.of_wr W238).1)
  refine dl5 X238 hS G239 e238 hZ hEL hC hx hlk hP hrt (hb hby c9) (by decide) (by decide) ?_
  have G240 := (G237.wr W238)
  have G241 := (((((((((((((F21.ext E22).keep Kq30 nin0).other W52 (Or.inr (slot_ne (Or.inr (z_w hw 186 rfl)) (Or.inr (z_w hw 189 rfl)) (by decide) (t := (.array .int)) (t' := (.array .int)) (by decide) (by decide)))).ext E53).keep Kq64 nin0).other W92 (Or.inr (slot_ne (Or.inr (z_w hw 186 rfl)) (Or.inr (z_w hw 192 rfl)) (by decide) (t := (.array .int)) (t' := (.array .int)) (by decide) (by decide)))).ext E93).keep Kq107 nin0).other W141 (Or.inr (slot_ne (Or.inr (z_w hw 186 rfl)) (Or.inr (z_w hw 195 rfl)) (by decide) (t := (.array .int)) (t' := (.array .int)) (by decide) (by decide)))).keep Kq142 nin0).ext E177).keep Kq196 nin0).other W238 (Or.inr (slot_ne (Or.inr (z_w hw 186 rfl)) (Or.inr (z_w hw 207 rfl)) (by decide) (t := (.array .int)) (t' := (.array .int)) (by decide) (by decide))))
  have G242 := ((((((((((F52.ext E53).keep Kq64 nin0).other W92 (Or.inr (slot_ne (Or.inr (z_w hw 189 rfl)) (Or.inr (z_w hw 192 rfl)) (by decide) (t := (.array .int)) (t' := (.array .int)) (by decide) (by decide)))).ext E93).keep Kq107 nin0).other W141 (Or.inr (slot_ne (Or.inr (z_w hw 189 rfl)) (Or.inr (z_w hw 195 rfl)) (by decide) (t := (.array .int)) (t' := (.array .int)) (by decide) (by decide)))).keep Kq142 nin0).ext E177).keep Kq196 nin0).other W238 (Or.inr (slot_ne (Or.inr (z_w hw 189 rfl)) (Or.inr (z_w hw 207 rfl)) (by decide) (t := (.array .int)) (t' := (.array .int)) (by decide) (by decide))))
  have G243 := ((G222.keep Kq196 nin0).other W238 ne11.symm)
  have G244 := ((G220.keep Kq196 nin0).other W238 ne42.symm)
  have G245 := (f0_196.other W238 ne227.symm)
  have hfin : (fun (v : Option Value) (h : Heap) (L : List Loc) => ∃ (b1 b2 b5 : Addr) (x1 x2 x5 : List Int32), v = none ∧ Fr n0 L ∧ Keep h0 h [o0] ∧ Exa Z h o0 z_s3 ∧ Fld Z h o0 z_s3 "reads" "[I" (.ref b1) ∧ Fld Z h o0 z_s3 "writes" "[I" (.ref b2) ∧ Fld Z h o0 z_s3 "mutexes" "[I" (.ref b5) ∧ ag0 Z h b1 x1 ∧ ag0 Z h b2 x2 ∧ ag0 Z h b5 x5 ∧ ((x1.length = 0 ↔ xs1.length = 0) ∧ x1.length ≤ 4) ∧ ((x2.length = 0 ↔ xs2.length = 0) ∧ x2.length ≤ 4) ∧ ((x5.length = 0 ↔ (xs3 ++ xs4).length = 0) ∧ x5.length ≤ 4)) none h238 _ := ⟨br_5, br_30, br_196, xr_5, xr_30, xr_196, rfl, N238, K238, G240, G241, G242, F238, G243, G244, G245, eb3, eo2, ef2⟩
  rw [e238]; exact hfin
theorem dv4 : decode prog_6_method_8_code 0 = .ok (.aload_n 0, 1) := by decide +kernel
theorem dw4 : decode prog_6_method_8_code 1 = .ok (.getfield 15, 3) := by decide +kernel
theorem dx4 : decode prog_6_method_8_code 4 = .ok (.arraylength, 1) := by decide +kernel
theorem cd5 : decode prog_6_method_8_code 5 = .ok (.ifCond .ne 23, 3) := by decide +kernel
theorem dy4 : decode prog_6_method_8_code 8 = .ok (.aload_n 0, 1) := by decide +kernel
theorem dz4 : decode prog_6_method_8_code 9 = .ok (.getfield 20, 3) := by decide +kernel
theorem ca9 : decode prog_6_method_8_code 12 = .ok (.arraylength, 1) := by decide +kernel
theorem cm4 : decode prog_6_method_8_code 13 = .ok (.ifCond .ne 15, 3) := by decide +kernel
theorem cb9 : decode prog_6_method_8_code 16 = .ok (.aload_n 0, 1) := by decide +kernel
theorem cc9 : decode prog_6_method_8_code 17 = .ok (.getfield 36, 3) := by decide +kernel
theorem cd9 : decode prog_6_method_8_code 20 = .ok (.arraylength, 1) := by decide +kernel
theorem cn4 : decode prog_6_method_8_code 21 = .ok (.ifCond .ne 7, 3) := by decide +kernel
theorem ce9 : decode prog_6_method_8_code 24 = .ok (.iconst 1, 1) := by decide +kernel
theorem cf9 : decode prog_6_method_8_code 25 = .ok (.goto 4, 3) := by decide +kernel
theorem bi7 : decode prog_6_method_8_code 29 = .ok (.ireturn, 1) := by decide +kernel
theorem cj1 : decode prog_6_method_8_code 28 = .ok (.iconst 0, 1) := by decide +kernel
theorem ey1 (m : MethodId) (o0 : Addr) : entryFrame m #[(.ref o0)] 1 = mkF m 0 #[.val (.ref o0)] [] := by first | (simp [entryFrame, mkF, argsToLocals, Value.category]; done) | rfl
def bx2 (x1 : List Int32) (x2 : List Int32) (x5 : List Int32) : Int32 := (if (Int32.ofNat x1.length) = (0 : Int32) then (if (Int32.ofNat x2.length) = (0 : Int32) then (if (Int32.ofNat x5.length) = (0 : Int32) then (1 : Int32) else (0 : Int32)) else (0 : Int32)) else (0 : Int32))
set_option maxRecDepth 65536 in
set_option maxHeartbeats 40000000 in
theorem eg2 (l : Launch) (Z : State) (a0 : Array Value) (hw : ∀ d ∈ tables_1, d.before a0 Z = true) (ws : List Jvm.Cond) (o0 : Addr) (x1 : List Int32) (x2 : List Int32) (x5 : List Int32) (ce5 : Addr) (co4 : Addr) (ch4 : Addr) (h0 : Heap) (n0 : Nat) (Z0 : n0 ≤ h0.size) (cx3 : Fld Z h0 o0 z_s3 "reads" "[I" (.ref ce5)) (ci1 : Fld Z h0 o0 z_s3 "writes" "[I" (.ref co4)) (bz7 : Fld Z h0 o0 z_s3 "mutexes" "[I" (.ref ch4)) (cg6 : ag0 Z h0 ce5 x1) (cn5 : ag0 Z h0 co4 x2) (ci5 : ag0 Z h0 ch4 x5) :
    as0 l Z (⟨z_s3, "touchesNothing", "()Z"⟩ : MethodName) prog_6_method_8_code 1 (some .boolean) ws ({ frames := 0, cells := 0, slots := 0, locals := 0 } : Room) #[(.ref o0)] h0 (fun (v : Option Value) (h : Heap) (L : List Loc) => v = some (.int (bx2 x1 x2 x5)) ∧ Fr n0 L ∧ h = h0) := by
  refine aq0 (plainFor_of_name an0) ?_
  intro p e s m below meth c s₁ P hx hby hml hrt hlk hown hnm hZ X0 e0 hP
  have N0 := Fr.nil n0
  have K0 := Keep.refl h0 []
  have hml' : c.maxLocals = 1 := hml
  refine ar0 (ey1 m o0) ?_
  show ac0 p e below P (s₁.setTop (mkF m 0 #[.val (.ref o0)] []))
  refine ab0 X0 hx (hb hby dv4) rfl rfl ?_
  refine ak1 X0 hx hZ hown (host := "") (Or.inl (z_w hw 185 rfl)) Via.refl e0 cx3 (hb hby dw4) (fun T1 X1 e1 => ?_)
  refine ah1 X1 hx hZ e1 cg6 (z := (Int32.ofNat x1.length)) rfl (hb hby dx4) ?_
  by_cases hc2 : (Int32.ofNat x1.length) = (0 : Int32)
  · refine aa3 X1 hx (hb hby cd5) ((if0 _ _).trans (teq hc2).2) ?_
    refine ab0 X1 hx (hb hby dy4) rfl rfl ?_
    refine ak1 X1 hx hZ hown (host := "") (Or.inl (z_w hw 188 rfl)) Via.refl e1 ci1 (hb hby dz4) (fun T3 X3 e3 => ?_)
    refine ah1 X3 hx hZ e3 cn5 (z := (Int32.ofNat x2.length)) rfl (hb hby ca9) ?_
    by_cases hc4 : (Int32.ofNat x2.length) = (0 : Int32)
    · refine aa3 X3 hx (hb hby cm4) ((if0 _ _).trans (teq hc4).2) ?_
      refine ab0 X3 hx (hb hby cb9) rfl rfl ?_
      refine ak1 X3 hx hZ hown (host := "") (Or.inl (z_w hw 206 rfl)) Via.refl e3 bz7 (hb hby cc9) (fun T5 X5 e5 => ?_)
      refine ah1 X5 hx hZ e5 ci5 (z := (Int32.ofNat x5.length)) rfl (hb hby cd9) ?_
      by_cases hc6 : (Int32.ofNat x5.length) = (0 : Int32)
      · refine aa3 X5 hx (hb hby cn4) ((if0 _ _).trans (teq hc6).2) ?_
        refine am0 X5 hx (hb hby ce9) (z := (1 : Int32)) rfl ?_
        refine am1 X5 hx (pc' := 29) (hb hby cf9) ?_
        refine bx6 X5 hx hlk hP (t := .boolean) (by simp) hrt (hb hby bi7) (by decide) (by decide) ⟨congrArg (fun z => some (Value.int z)) ?_, N0, e5⟩
        exact (show bx2 x1 x2 x5 = (1 : Int32) from (if_pos hc2).trans ((if_pos hc4).trans ((if_pos hc6).trans (rfl)))).symm
      · refine ak4 X5 hx (pc' := 28) (hb hby cn4) ((if0 _ _).trans (feq hc6).2) ?_
        refine am0 X5 hx (hb hby cj1) (z := (0 : Int32)) rfl ?_
        refine bx6 X5 hx hlk hP (t := .boolean) (by simp) hrt (hb hby bi7) (by decide) (by decide) ⟨congrArg (fun z => some (Value.int z)) ?_, N0, e5⟩
        exact (show bx2 x1 x2 x5 = (0 : Int32) from (if_pos hc2).trans ((if_pos hc4).trans ((if_neg hc6).trans (rfl)))).symm
    · refine ak4 X3 hx (pc' := 28) (hb hby cm4) ((if0 _ _).trans (feq hc4).2) ?_
      refine am0 X3 hx (hb hby cj1) (z := (0 : Int32)) rfl ?_
      refine bx6 X3 hx hlk hP (t := .boolean) (by simp) hrt (hb hby bi7) (by decide) (by decide) ⟨congrArg (fun z => some (Value.int z)) ?_, N0, e3⟩
      exact (show bx2 x1 x2 x5 = (0 : Int32) from (if_pos hc2).trans ((if_neg hc4).trans (rfl))).symm
  · refine ak4 X1 hx (pc' := 28) (hb hby cd5) ((if0 _ _).trans (feq hc2).2) ?_
    refine am0 X1 hx (hb hby cj1) (z := (0 : Int32)) rfl ?_
    refine bx6 X1 hx hlk hP (t := .boolean) (by simp) hrt (hb hby bi7) (by decide) (by decide) ⟨congrArg (fun z => some (Value.int z)) ?_, N0, e1⟩
    exact (show bx2 x1 x2 x5 = (0 : Int32) from (if_neg hc2).trans (rfl)).symm
def ar3 (n x y : Int32) : List Int32 := if n = (0 : Int32) then [] else if n = (1 : Int32) then [x] else [x, y]
theorem d5 : decode method_2_code 0 = .ok (.iload_n 0, 1) := by decide +kernel
theorem cf5 : decode method_2_code 1 = .ok (.ifCond .ne 7, 3) := by decide +kernel
theorem da5 : decode method_2_code 4 = .ok (.iconst 0, 1) := by decide +kernel
theorem db5 : decode method_2_code 5 = .ok (.newarray .int, 2) := by decide +kernel
theorem dc5 : decode method_2_code 7 = .ok (.areturn, 1) := by decide +kernel
theorem dd5 : decode method_2_code 8 = .ok (.iload_n 0, 1) := by decide +kernel
theorem de5 : decode method_2_code 9 = .ok (.iconst 1, 1) := by decide +kernel
theorem cp4 : decode method_2_code 10 = .ok (.if_icmp .ne 11, 3) := by decide +kernel
theorem cg9 : decode method_2_code 13 = .ok (.iconst 1, 1) := by decide +kernel
theorem ch9 : decode method_2_code 14 = .ok (.newarray .int, 2) := by decide +kernel
theorem ci9 : decode method_2_code 16 = .ok (.dup, 1) := by decide +kernel
theorem cj9 : decode method_2_code 17 = .ok (.iconst 0, 1) := by decide +kernel
theorem ck9 : decode method_2_code 18 = .ok (.iload_n 1, 1) := by decide +kernel
theorem cl9 : decode method_2_code 19 = .ok (.iastore, 1) := by decide +kernel
theorem cm9 : decode method_2_code 20 = .ok (.areturn, 1) := by decide +kernel
theorem cn9 : decode method_2_code 21 = .ok (.iconst 2, 1) := by decide +kernel
theorem co9 : decode method_2_code 22 = .ok (.newarray .int, 2) := by decide +kernel
theorem cp9 : decode method_2_code 24 = .ok (.dup, 1) := by decide +kernel
theorem cq9 : decode method_2_code 25 = .ok (.iconst 0, 1) := by decide +kernel
theorem cr9 : decode method_2_code 26 = .ok (.iload_n 1, 1) := by decide +kernel
theorem cs9 : decode method_2_code 27 = .ok (.iastore, 1) := by decide +kernel
theorem ct9 : decode method_2_code 28 = .ok (.dup, 1) := by decide +kernel
theorem cu9 : decode method_2_code 29 = .ok (.iconst 1, 1) := by decide +kernel
theorem cv9 : decode method_2_code 30 = .ok (.iload_n 2, 1) := by decide +kernel
theorem cw9 : decode method_2_code 31 = .ok (.iastore, 1) := by decide +kernel
theorem cx9 : decode method_2_code 32 = .ok (.areturn, 1) := by decide +kernel
theorem ef0 (m : MethodId) (p0 : Int32) (p1 : Int32) (p2 : Int32) : entryFrame m #[(.int p0), (.int p1), (.int p2)] 3 = mkF m 0 #[.val (.int p0), .val (.int p1), .val (.int p2)] [] := by first | (simp [entryFrame, mkF, argsToLocals, Value.category]; done) | rfl
theorem au2 : plainName ci4 = true := by first | (simp [plainName, overriddenIn]; done) | decide +kernel
set_option maxRecDepth 65536 in
set_option maxHeartbeats 40000000 in
theorem ca4 (l : Launch) (Z : State) (a0 : Array Value) (hw : ∀ d ∈ tables_1, d.before a0 Z = true) (ws : List Jvm.Cond) (p0 : Int32) (p1 : Int32) (p2 : Int32)  (h0 : Heap) (n0 : Nat) (Z0 : n0 ≤ h0.size)  :
    as0 l Z (⟨ci4, "arr", "(III)[I"⟩ : MethodName) method_2_code 3 (some (.array .int)) ws ({ frames := 0, cells := 1, slots := 2, locals := 0 } : Room) #[(.int p0), (.int p1), (.int p2)] h0 (fun (v : Option Value) (h : Heap) (L : List Loc) => ∃ (br : Addr), v = some (.ref br) ∧ Fr n0 L ∧ Keep h0 h [] ∧ h0.size ≤ br ∧ n0 ≤ br ∧ ag0 Z h br (ar3 p0 p1 p2)) := by
  refine aq0 (plainFor_of_name au2) ?_
  intro p e s m below meth c s₁ P hx hby hml hrt hlk hown hnm hZ X0 e0 hP
  have N0 := Fr.nil n0
  have K0 := Keep.refl h0 []
  have hml' : c.maxLocals = 3 := hml
  refine ar0 (ef0 m p0 p1 p2) ?_
  show ac0 p e below P (s₁.setTop (mkF m 0 #[.val (.int p0), .val (.int p1), .val (.int p2)] []))
  refine ae0 X0 hx (hb hby d5) rfl ?_
  by_cases hc1 : p0 = (0 : Int32)
  · refine aa3 X0 hx (hb hby cf5) ((if0 _ _).trans (teq hc1).2) ?_
    refine am0 X0 hx (hb hby da5) (z := (0 : Int32)) rfl ?_
    refine ab9 X0 hx hZ (z_w hw 5 rfl) e0 (j := (0 : Int32)) (n := 0) (by decide) 0 (by decide) (by decide) (by decide) (by decide) (hb hby db5) (fun T2 h2 X2 e2 E2 B2 => ?_)
    obtain ⟨b2, g2⟩ : ∃ z, z = h0.size := ⟨_, rfl⟩
    rw [← g2] at B2 ⊢
    have bb3 : n0 ≤ b2 := Nat.le_trans (Nat.le_trans Z0 K0.1) (Nat.le_of_eq g2.symm)
    have bd7 : h0.size ≤ b2 := Nat.le_trans K0.1 (Nat.le_of_eq g2.symm)
    have K2 := Keep.ext K0 E2
    have A2 : ag0 Z h2 b2 [] := B2
    have Ar3 : ag0 Z h2 b2 (ar3 p0 p1 p2) := (show ag0 Z h2 b2 (ar3 p0 p1 p2) from by rw [show ar3 p0 p1 p2 = ([] : List Int32) from (if_pos hc1).trans (rfl)]; exact A2)
    have hfin : (fun (v : Option Value) (h : Heap) (L : List Loc) => ∃ (br : Addr), v = some (.ref br) ∧ Fr n0 L ∧ Keep h0 h [] ∧ h0.size ≤ br ∧ n0 ≤ br ∧ ag0 Z h br (ar3 p0 p1 p2)) (some (.ref b2)) h2 _ := ⟨b2, rfl, N0, K2, bd7, bb3, Ar3⟩
    refine as1 X2 hx hlk hP rfl rfl hrt (hb hby dc5) (by decide) (by decide) ?_
    rw [e2]; exact hfin
  · refine ak4 X0 hx (pc' := 8) (hb hby cf5) ((if0 _ _).trans (feq hc1).2) ?_
    refine ae0 X0 hx (hb hby dd5) rfl ?_
    refine am0 X0 hx (hb hby de5) (z := (1 : Int32)) rfl ?_
    by_cases hc4 : p0 = (1 : Int32)
    · refine av0 X0 hx (hb hby cp4) (teq hc4).2 ?_
      refine am0 X0 hx (hb hby cg9) (z := (1 : Int32)) rfl ?_
      refine ab9 X0 hx hZ (z_w hw 5 rfl) e0 (j := (1 : Int32)) (n := 1) (by decide) 1 (by decide) (by decide) (by decide) (by decide) (hb hby ch9) (fun T5 h5 X5 e5 E5 B5 => ?_)
      obtain ⟨b5, g5⟩ : ∃ z, z = h0.size := ⟨_, rfl⟩
      rw [← g5] at B5 ⊢
      have eg0 : n0 ≤ b5 := Nat.le_trans (Nat.le_trans Z0 K0.1) (Nat.le_of_eq g5.symm)
      have ez1 : h0.size ≤ b5 := Nat.le_trans K0.1 (Nat.le_of_eq g5.symm)
      have K5 := Keep.ext K0 E5
      have A5 : ag0 Z h5 b5 [(0 : Int32)] := B5
      refine an6 X5 hx (hb hby ci9) rfl ?_
      refine am0 X5 hx (hb hby cj9) (z := (0 : Int32)) rfl ?_
      refine ae0 X5 hx (hb hby ck9) rfl ?_
      refine ae2 X5 hx hZ e5 A5 (j := (0 : Int32)) (v := p1) (i := 0) (by decide) (by show (0 : Nat) < 1; decide) (hb hby cl9) (fun T6 h6 X6 e6 W6 B6 => ?_)
      have A6 : ag0 Z h6 b5 [p1] := B6
      have N6 := Fr.snoc X6 N0 eg0
      have K6 := Keep.wr K5 W6 (Or.inr ez1)
      have Ar7 : ag0 Z h6 b5 (ar3 p0 p1 p2) := (show ag0 Z h6 b5 (ar3 p0 p1 p2) from by rw [show ar3 p0 p1 p2 = [p1] from (if_neg hc1).trans ((if_pos hc4).trans (rfl))]; exact A6)
      have hfin : (fun (v : Option Value) (h : Heap) (L : List Loc) => ∃ (br : Addr), v = some (.ref br) ∧ Fr n0 L ∧ Keep h0 h [] ∧ h0.size ≤ br ∧ n0 ≤ br ∧ ag0 Z h br (ar3 p0 p1 p2)) (some (.ref b5)) h6 _ := ⟨b5, rfl, N6, K6, ez1, eg0, Ar7⟩
      refine as1 X6 hx hlk hP rfl rfl hrt (hb hby cm9) (by decide) (by decide) ?_
      rw [e6]; exact hfin
    · refine au0 X0 hx (pc' := 21) (hb hby cp4) (feq hc4).2 ?_
      refine am0 X0 hx (hb hby cn9) (z := (2 : Int32)) rfl ?_
      refine ab9 X0 hx hZ (z_w hw 5 rfl) e0 (j := (2 : Int32)) (n := 2) (by decide) 2 (by decide) (by decide) (by decide) (by decide) (hb hby co9) (fun T8 h8 X8 e8 E8 B8 => ?_)
      obtain ⟨b8, g8⟩ : ∃ z, z = h0.size := ⟨_, rfl⟩
      rw [← g8] at B8 ⊢
      have ch6 : n0 ≤ b8 := Nat.le_trans (Nat.le_trans Z0 K0.1) (Nat.le_of_eq g8.symm)
      have df5 : h0.size ≤ b8 := Nat.le_trans K0.1 (Nat.le_of_eq g8.symm)
      have K8 := Keep.ext K0 E8
      have A8 : ag0 Z h8 b8 [(0 : Int32), (0 : Int32)] := B8
      refine an6 X8 hx (hb hby cp9) rfl ?_
      refine am0 X8 hx (hb hby cq9) (z := (0 : Int32)) rfl ?_
      refine ae0 X8 hx (hb hby cr9) rfl ?_
      refine ae2 X8 hx hZ e8 A8 (j := (0 : Int32)) (v := p1) (i := 0) (by decide) (by show (0 : Nat) < 2; decide) (hb hby cs9) (fun T9 h9 X9 e9 W9 B9 => ?_)
      have A9 : ag0 Z h9 b8 [p1, (0 : Int32)] := B9
      have N9 := Fr.snoc X9 N0 ch6
      have K9 := Keep.wr K8 W9 (Or.inr df5)
      refine an6 X9 hx (hb hby ct9) rfl ?_
      refine am0 X9 hx (hb hby cu9) (z := (1 : Int32)) rfl ?_
      refine ae0 X9 hx (hb hby cv9) rfl ?_
      refine ae2 X9 hx hZ e9 A9 (j := (1 : Int32)) (v := p2) (i := 1) (by decide) (by show (1 : Nat) < 2; decide) (hb hby cw9) (fun T10 h10 X10 e10 W10 B10 => ?_)
      have A10 : ag0 Z h10 b8 [p1, p2] := B10
      have N10 := Fr.snoc X10 N9 ch6
      have K10 := Keep.wr K9 W10 (Or.inr df5)
      have Ar11 : ag0 Z h10 b8 (ar3 p0 p1 p2) := (show ag0 Z h10 b8 (ar3 p0 p1 p2) from by rw [show ar3 p0 p1 p2 = [p1, p2] from (if_neg hc1).trans ((if_neg hc4).trans (rfl))]; exact A10)
      have hfin : (fun (v : Option Value) (h : Heap) (L : List Loc) => ∃ (br : Addr), v = some (.ref br) ∧ Fr n0 L ∧ Keep h0 h [] ∧ h0.size ≤ br ∧ n0 ≤ br ∧ ag0 Z h br (ar3 p0 p1 p2)) (some (.ref b8)) h10 _ := ⟨b8, rfl, N10, K10, df5, ch6, Ar11⟩
      refine as1 X10 hx hlk hP rfl rfl hrt (hb hby cx9) (by decide) (by decide) ?_
      rw [e10]; exact hfin
theorem cb4 (n x y : Int32) : (ar3 n x y).length ≤ 2 := by
  unfold ar3
  repeat' split
  all_goals simp
theorem cc4 (n x y : Int32) : (ar3 n x y).length = 0 ↔ n = 0 := by
  unfold ar3
  by_cases h : n = 0
  · simp [h]
  · by_cases g : n = 1 <;> simp [h, g]
theorem cd4 {n x y : Int32} (hx : ¬ x < (0 : Int32)) (hy : ¬ y < (0 : Int32)) : ∀ v ∈ ar3 n x y, ¬ v < (0 : Int32) := by
  unfold ar3
  split
  · exact am3
  · split
    · exact aa2 hx am3
    · exact aa2 hx (aa2 hy am3)
theorem bn1 (a : Int32) : ¬ (a &&& (2147483647 : Int32)) < (0 : Int32) := by
  have e : (a &&& (2147483647 : Int32)).toBitVec.msb = false := by
    show (a.toBitVec &&& 2147483647#32).msb = false
    rw [BitVec.msb_and, show (2147483647#32).msb = false from by decide, Bool.and_false]
  have q := BitVec.msb_eq_toInt (x := (a &&& (2147483647 : Int32)).toBitVec)
  rw [Int32.lt_iff_toInt_lt, show (0 : Int32).toInt = 0 from by decide]
  intro hlt
  have w := decide_eq_true (show (a &&& (2147483647 : Int32)).toBitVec.toInt < 0 from hlt)
  rw [← q, e] at w
  cases w
theorem cj5 {x : List Int32} (h : x.length ≤ 4) : Int32.ofNat x.length = (0 : Int32) ↔ x.length = 0 := by
  refine ⟨fun q => ?_, fun q => by rw [q]; rfl⟩
  have := congrArg Int32.toInt q
  rw [Int32.toInt_ofNat_small (by omega)] at this
  have z : (0 : Int32).toInt = 0 := by decide
  omega
theorem eh2 {x1 x2 x5 : List Int32} {n1 n2 n3 n4 a1 b1 a2 b2 a3 b3 a4 b4 : Int32} (g1 : (x1.length = 0 ↔ (ar3 n1 a1 b1).length = 0) ∧ x1.length ≤ 4) (g2 : (x2.length = 0 ↔ (ar3 n2 a2 b2).length = 0) ∧ x2.length ≤ 4) (g5 : (x5.length = 0 ↔ (ar3 n3 a3 b3 ++ ar3 n4 a4 b4).length = 0) ∧ x5.length ≤ 4) :
    bx2 x1 x2 x5 = (if n1 = (0 : Int32) then (if n2 = (0 : Int32) then (if n3 = (0 : Int32) then (if n4 = (0 : Int32) then (1 : Int32) else (0 : Int32)) else (0 : Int32)) else (0 : Int32)) else (0 : Int32)) := by
  have h1 := (cj5 g1.2).trans (g1.1.trans (cc4 _ _ _))
  have h2 := (cj5 g2.2).trans (g2.1.trans (cc4 _ _ _))
  have h5 : Int32.ofNat x5.length = (0 : Int32) ↔ n3 = 0 ∧ n4 = 0 := (cj5 g5.2).trans (g5.1.trans (by rw [List.length_append, ← cc4 n3 a3 b3, ← cc4 n4 a4 b4]; omega))
  unfold bx2
  simp only [h1, h2, h5]
  by_cases q1 : n1 = 0 <;> by_cases q2 : n2 = 0 <;> by_cases q3 : n3 = 0 <;> by_cases q4 : n4 = 0 <;> simp [q1, q2, q3, q4]
theorem am9 : parseMethodDescriptor "(III)[I" = some ⟨[.int, .int, .int], some (.array .int)⟩ := by decide +kernel
theorem ce4 : parseMethodDescriptor "([I[I[I[I)V" = some ⟨[(.array .int), (.array .int), (.array .int), (.array .int)], none⟩ := by decide +kernel
theorem ej2 (m : MethodId) (p0 : Int32) (p1 : Int32) (p2 : Int32) (p3 : Int32) (p4 : Int32) : entryFrame m #[(.int p0), (.int p1), (.int p2), (.int p3), (.int p4)] maxLocals = mkF m 0 #[.val (.int p0), .val (.int p1), .val (.int p2), .val (.int p3), .val (.int p4), .unset, .unset, .unset, .unset, .unset, .unset, .unset, .unset, .unset, .unset, .unset, .unset, .unset, .unset] [] := by first | (simp [entryFrame, mkF, argsToLocals, Value.category, maxLocals]; done) | rfl
set_option maxRecDepth 65536 in
set_option maxHeartbeats 40000000 in
theorem ep2 (l : Launch) (Z : State) (a0 : Array Value) (hw : ∀ d ∈ tables_1, d.before a0 Z = true) (ws : List Jvm.Cond) (p0 : Int32) (p1 : Int32) (p2 : Int32) (p3 : Int32) (p4 : Int32) (aa0 : Int32) (h0 : Heap) (n0 : Nat) (Z0 : n0 ≤ h0.size) (af0 : Sta Z h0 z_s1 z_s8 "Z" (.int aa0)) (hnz : ¬ (aa0 = (0 : Int32))) :
    cr5 l Z consts_1 x code maxLocals ret ws room_1 #[(.int p0), (.int p1), (.int p2), (.int p3), (.int p4)] h0 (fun (v : Option Value) (h : Heap) (L : List Loc) => v = some (.int 1) ∧ Fr n0 L) := by
  refine dd0 (plainFor_of_name au2) ?_
  intro p e s m below meth c s₁ P vm0 k0 hx hby hml hrt hlk hown hnm hZ X0 e0 hS hk hC hP
  have N0 := Fr.nil n0
  have K0 := Keep.refl h0 []
  have hml' : c.maxLocals = 19 := hml
  have hEL := bj7 hw
  refine ar0 (ej2 m p0 p1 p2 p3 p4) ?_
  show ac0 p e below P (s₁.setTop (mkF m 0 #[.val (.int p0), .val (.int p1), .val (.int p2), .val (.int p3), .val (.int p4), .unset, .unset, .unset, .unset, .unset, .unset, .unset, .unset, .unset, .unset, .unset, .unset, .unset, .unset] []))
  refine ae0 X0 hx (hb hby at_0) rfl ?_
  refine ae1 (fun _ => X0.ldcInt hx hown (mvT hZ (z_w hw 0 rfl)) (g := (mkF m 1 #[.val (.int p0), .val (.int p1), .val (.int p2), .val (.int p3), .val (.int p4), .unset, .unset, .unset, .unset, .unset, .unset, .unset, .unset, .unset, .unset, .unset, .unset, .unset, .unset] [(.int p1)])) rfl (hb hby at_1) _) ?_
  show ac0 p e below P (s₁.setTop (mkF m 3 #[.val (.int p0), .val (.int p1), .val (.int p2), .val (.int p3), .val (.int p4), .unset, .unset, .unset, .unset, .unset, .unset, .unset, .unset, .unset, .unset, .unset, .unset, .unset, .unset] [(.int (2147483647 : Int32)), (.int p1)]))
  refine an9 X0 hx (hb hby at_3) (z := (p1 &&& (2147483647 : Int32))) rfl ?_
  refine ai1 X0 hx (hb hby at_4) (l' := #[.val (.int p0), .val (.int p1), .val (.int p2), .val (.int p3), .val (.int p4), .val (.int (p1 &&& (2147483647 : Int32))), .unset, .unset, .unset, .unset, .unset, .unset, .unset, .unset, .unset, .unset, .unset, .unset, .unset]) rfl ?_
  refine ae0 X0 hx (hb hby at_6) rfl ?_
  refine ae1 (fun _ => X0.ldcInt hx hown (mvT hZ (z_w hw 0 rfl)) (g := (mkF m 7 #[.val (.int p0), .val (.int p1), .val (.int p2), .val (.int p3), .val (.int p4), .val (.int (p1 &&& (2147483647 : Int32))), .unset, .unset, .unset, .unset, .unset, .unset, .unset, .unset, .unset, .unset, .unset, .unset, .unset] [(.int p2)])) rfl (hb hby at_7) _) ?_
  show ac0 p e below P (s₁.setTop (mkF m 9 #[.val (.int p0), .val (.int p1), .val (.int p2), .val (.int p3), .val (.int p4), .val (.int (p1 &&& (2147483647 : Int32))), .unset, .unset, .unset, .unset, .unset, .unset, .unset, .unset, .unset, .unset, .unset, .unset, .unset] [(.int (2147483647 : Int32)), (.int p2)]))
  refine an9 X0 hx (hb hby at_9) (z := (p2 &&& (2147483647 : Int32))) rfl ?_
  refine ai1 X0 hx (hb hby at_10) (l' := #[.val (.int p0), .val (.int p1), .val (.int p2), .val (.int p3), .val (.int p4), .val (.int (p1 &&& (2147483647 : Int32))), .val (.int (p2 &&& (2147483647 : Int32))), .unset, .unset, .unset, .unset, .unset, .unset, .unset, .unset, .unset, .unset, .unset, .unset]) rfl ?_
  refine ae0 X0 hx (hb hby at_12) rfl ?_
  refine ae1 (fun _ => X0.ldcInt hx hown (mvT hZ (z_w hw 0 rfl)) (g := (mkF m 13 #[.val (.int p0), .val (.int p1), .val (.int p2), .val (.int p3), .val (.int p4), .val (.int (p1 &&& (2147483647 : Int32))), .val (.int (p2 &&& (2147483647 : Int32))), .unset, .unset, .unset, .unset, .unset, .unset, .unset, .unset, .unset, .unset, .unset, .unset] [(.int p3)])) rfl (hb hby at_13) _) ?_
  show ac0 p e below P (s₁.setTop (mkF m 15 #[.val (.int p0), .val (.int p1), .val (.int p2), .val (.int p3), .val (.int p4), .val (.int (p1 &&& (2147483647 : Int32))), .val (.int (p2 &&& (2147483647 : Int32))), .unset, .unset, .unset, .unset, .unset, .unset, .unset, .unset, .unset, .unset, .unset, .unset] [(.int (2147483647 : Int32)), (.int p3)]))
  refine an9 X0 hx (hb hby at_15) (z := (p3 &&& (2147483647 : Int32))) rfl ?_
  refine ai1 X0 hx (hb hby at_16) (l' := #[.val (.int p0), .val (.int p1), .val (.int p2), .val (.int p3), .val (.int p4), .val (.int (p1 &&& (2147483647 : Int32))), .val (.int (p2 &&& (2147483647 : Int32))), .val (.int (p3 &&& (2147483647 : Int32))), .unset, .unset, .unset, .unset, .unset, .unset, .unset, .unset, .unset, .unset, .unset]) rfl ?_
  refine ak0 X0 hx (hb hby at_18) rfl ?_
  refine ae1 (fun _ => X0.ldcInt hx hown (mvT hZ (z_w hw 0 rfl)) (g := (mkF m 20 #[.val (.int p0), .val (.int p1), .val (.int p2), .val (.int p3), .val (.int p4), .val (.int (p1 &&& (2147483647 : Int32))), .val (.int (p2 &&& (2147483647 : Int32))), .val (.int (p3 &&& (2147483647 : Int32))), .unset, .unset, .unset, .unset, .unset, .unset, .unset, .unset, .unset, .unset, .unset] [(.int p4)])) rfl (hb hby at_20) _) ?_
  show ac0 p e below P (s₁.setTop (mkF m 22 #[.val (.int p0), .val (.int p1), .val (.int p2), .val (.int p3), .val (.int p4), .val (.int (p1 &&& (2147483647 : Int32))), .val (.int (p2 &&& (2147483647 : Int32))), .val (.int (p3 &&& (2147483647 : Int32))), .unset, .unset, .unset, .unset, .unset, .unset, .unset, .unset, .unset, .unset, .unset] [(.int (2147483647 : Int32)), (.int p4)]))
  refine an9 X0 hx (hb hby at_22) (z := (p4 &&& (2147483647 : Int32))) rfl ?_
  refine ai1 X0 hx (hb hby at_23) (l' := #[.val (.int p0), .val (.int p1), .val (.int p2), .val (.int p3), .val (.int p4), .val (.int (p1 &&& (2147483647 : Int32))), .val (.int (p2 &&& (2147483647 : Int32))), .val (.int (p3 &&& (2147483647 : Int32))), .val (.int (p4 &&& (2147483647 : Int32))), .unset, .unset, .unset, .unset, .unset, .unset, .unset, .unset, .unset, .unset]) rfl ?_
  refine ae0 X0 hx (hb hby at_25) rfl ?_
  refine am0 X0 hx (hb hby at_26) (z := (3 : Int32)) rfl ?_
  refine an9 X0 hx (hb hby at_27) (z := (p0 &&& (3 : Int32))) rfl ?_
  refine ai1 X0 hx (hb hby at_28) (l' := #[.val (.int p0), .val (.int p1), .val (.int p2), .val (.int p3), .val (.int p4), .val (.int (p1 &&& (2147483647 : Int32))), .val (.int (p2 &&& (2147483647 : Int32))), .val (.int (p3 &&& (2147483647 : Int32))), .val (.int (p4 &&& (2147483647 : Int32))), .val (.int (p0 &&& (3 : Int32))), .unset, .unset, .unset, .unset, .unset, .unset, .unset, .unset, .unset]) rfl ?_
  refine ae0 X0 hx (hb hby at_30) rfl ?_
  refine am0 X0 hx (hb hby at_31) (z := (2 : Int32)) rfl ?_
  refine al8 X0 hx (hb hby at_32) (z := (p0 >>> ((2 : Int32) &&& 31))) rfl ?_
  refine am0 X0 hx (hb hby at_33) (z := (3 : Int32)) rfl ?_
  refine an9 X0 hx (hb hby at_34) (z := ((p0 >>> ((2 : Int32) &&& 31)) &&& (3 : Int32))) rfl ?_
  refine ai1 X0 hx (hb hby at_35) (l' := #[.val (.int p0), .val (.int p1), .val (.int p2), .val (.int p3), .val (.int p4), .val (.int (p1 &&& (2147483647 : Int32))), .val (.int (p2 &&& (2147483647 : Int32))), .val (.int (p3 &&& (2147483647 : Int32))), .val (.int (p4 &&& (2147483647 : Int32))), .val (.int (p0 &&& (3 : Int32))), .val (.int ((p0 >>> ((2 : Int32) &&& 31)) &&& (3 : Int32))), .unset, .unset, .unset, .unset, .unset, .unset, .unset, .unset]) rfl ?_
  refine ae0 X0 hx (hb hby at_37) rfl ?_
  refine am0 X0 hx (hb hby at_38) (z := (4 : Int32)) rfl ?_
  refine al8 X0 hx (hb hby at_39) (z := (p0 >>> ((4 : Int32) &&& 31))) rfl ?_
  refine am0 X0 hx (hb hby at_40) (z := (3 : Int32)) rfl ?_
  refine an9 X0 hx (hb hby at_41) (z := ((p0 >>> ((4 : Int32) &&& 31)) &&& (3 : Int32))) rfl ?_
  refine ai1 X0 hx (hb hby at_42) (l' := #[.val (.int p0), .val (.int p1), .val (.int p2), .val (.int p3), .val (.int p4), .val (.int (p1 &&& (2147483647 : Int32))), .val (.int (p2 &&& (2147483647 : Int32))), .val (.int (p3 &&& (2147483647 : Int32))), .val (.int (p4 &&& (2147483647 : Int32))), .val (.int (p0 &&& (3 : Int32))), .val (.int ((p0 >>> ((2 : Int32) &&& 31)) &&& (3 : Int32))), .val (.int ((p0 >>> ((4 : Int32) &&& 31)) &&& (3 : Int32))), .unset, .unset, .unset, .unset, .unset, .unset, .unset]) rfl ?_
  refine ae0 X0 hx (hb hby at_44) rfl ?_
  refine ak8 X0 hx (hb hby at_45) (z := (6 : Int32)) rfl ?_
  refine al8 X0 hx (hb hby at_47) (z := (p0 >>> ((6 : Int32) &&& 31))) rfl ?_
  refine am0 X0 hx (hb hby at_48) (z := (3 : Int32)) rfl ?_
  refine an9 X0 hx (hb hby at_49) (z := ((p0 >>> ((6 : Int32) &&& 31)) &&& (3 : Int32))) rfl ?_
  refine ai1 X0 hx (hb hby at_50) (l' := #[.val (.int p0), .val (.int p1), .val (.int p2), .val (.int p3), .val (.int p4), .val (.int (p1 &&& (2147483647 : Int32))), .val (.int (p2 &&& (2147483647 : Int32))), .val (.int (p3 &&& (2147483647 : Int32))), .val (.int (p4 &&& (2147483647 : Int32))), .val (.int (p0 &&& (3 : Int32))), .val (.int ((p0 >>> ((2 : Int32) &&& 31)) &&& (3 : Int32))), .val (.int ((p0 >>> ((4 : Int32) &&& 31)) &&& (3 : Int32))), .val (.int ((p0 >>> ((6 : Int32) &&& 31)) &&& (3 : Int32))), .unset, .unset, .unset, .unset, .unset, .unset]) rfl ?_
  refine ak0 X0 hx (hb hby at_52) rfl ?_
  refine ak0 X0 hx (hb hby at_54) rfl ?_
  refine ak0 X0 hx (hb hby at_56) rfl ?_
  refine af1 X0 hx hZ (y := (⟨ci4, "arr", "(III)[I"⟩ : MethodName)) hown (z_w hw 1 rfl) (z_w hw 2 rfl) (z_w hw 3 rfl) (z_w hw 4 rfl) (ca4 l Z a0 hw [] (p0 &&& (3 : Int32)) (p1 &&& (2147483647 : Int32)) (p2 &&& (2147483647 : Int32))  h0 n0 (Nat.le_trans Z0 K0.1) ) 0 e0 hml' (argsL := [(.int (p0 &&& (3 : Int32))), (.int (p1 &&& (2147483647 : Int32))), (.int (p2 &&& (2147483647 : Int32)))]) (rest := []) (lenOf am9 rfl) (hb hby at_58) (fun r1 T1 L1 X1 hQ1 => ?_)
  obtain ⟨br_1, rfl, Nq1, Kq1, ao2, ac3, f0_1⟩ := hQ1
  have N1 := Fr.app N0 Nq1
  have aq3 := Nat.le_trans K0.1 ao2
  have hC := hC.trans (CHr.keep Kq1 sf0 hC.1)
  have K1 := Keep.trans K0 Kq1 all0
  show ac0 p e below P (T1.setTop (mkF m 61 #[.val (.int p0), .val (.int p1), .val (.int p2), .val (.int p3), .val (.int p4), .val (.int (p1 &&& (2147483647 : Int32))), .val (.int (p2 &&& (2147483647 : Int32))), .val (.int (p3 &&& (2147483647 : Int32))), .val (.int (p4 &&& (2147483647 : Int32))), .val (.int (p0 &&& (3 : Int32))), .val (.int ((p0 >>> ((2 : Int32) &&& 31)) &&& (3 : Int32))), .val (.int ((p0 >>> ((4 : Int32) &&& 31)) &&& (3 : Int32))), .val (.int ((p0 >>> ((6 : Int32) &&& 31)) &&& (3 : Int32))), .unset, .unset, .unset, .unset, .unset, .unset] [(.ref br_1)]))
  refine ak7 X1 hx (hb hby at_61) rfl (l' := #[.val (.int p0), .val (.int p1), .val (.int p2), .val (.int p3), .val (.int p4), .val (.int (p1 &&& (2147483647 : Int32))), .val (.int (p2 &&& (2147483647 : Int32))), .val (.int (p3 &&& (2147483647 : Int32))), .val (.int (p4 &&& (2147483647 : Int32))), .val (.int (p0 &&& (3 : Int32))), .val (.int ((p0 >>> ((2 : Int32) &&& 31)) &&& (3 : Int32))), .val (.int ((p0 >>> ((4 : Int32) &&& 31)) &&& (3 : Int32))), .val (.int ((p0 >>> ((6 : Int32) &&& 31)) &&& (3 : Int32))), .val (.ref br_1), .unset, .unset, .unset, .unset, .unset]) rfl ?_
  refine ak0 X1 hx (hb hby at_63) rfl ?_
  refine ak0 X1 hx (hb hby at_65) rfl ?_
  refine ak0 X1 hx (hb hby at_67) rfl ?_
  refine af1 X1 hx hZ (y := (⟨ci4, "arr", "(III)[I"⟩ : MethodName)) hown (z_w hw 1 rfl) (z_w hw 2 rfl) (z_w hw 3 rfl) (z_w hw 4 rfl) (ca4 l Z a0 hw [] ((p0 >>> ((2 : Int32) &&& 31)) &&& (3 : Int32)) (p2 &&& (2147483647 : Int32)) (p3 &&& (2147483647 : Int32))  T1.heap n0 (Nat.le_trans Z0 K1.1) ) 0 rfl hml' (argsL := [(.int ((p0 >>> ((2 : Int32) &&& 31)) &&& (3 : Int32))), (.int (p2 &&& (2147483647 : Int32))), (.int (p3 &&& (2147483647 : Int32)))]) (rest := []) (lenOf am9 rfl) (hb hby at_69) (fun r2 T2 L2 X2 hQ2 => ?_)
  obtain ⟨br_2, rfl, Nq2, Kq2, ci6, ed4, f0_2⟩ := hQ2
  have N2 := Fr.app N1 Nq2
  have ne3 := z_nc f0_1.lt ci6
  have em4 := Nat.le_trans K1.1 ci6
  have hC := hC.trans (CHr.keep Kq2 sf0 hC.1)
  have K2 := Keep.trans K1 Kq2 all0
  show ac0 p e below P (T2.setTop (mkF m 72 #[.val (.int p0), .val (.int p1), .val (.int p2), .val (.int p3), .val (.int p4), .val (.int (p1 &&& (2147483647 : Int32))), .val (.int (p2 &&& (2147483647 : Int32))), .val (.int (p3 &&& (2147483647 : Int32))), .val (.int (p4 &&& (2147483647 : Int32))), .val (.int (p0 &&& (3 : Int32))), .val (.int ((p0 >>> ((2 : Int32) &&& 31)) &&& (3 : Int32))), .val (.int ((p0 >>> ((4 : Int32) &&& 31)) &&& (3 : Int32))), .val (.int ((p0 >>> ((6 : Int32) &&& 31)) &&& (3 : Int32))), .val (.ref br_1), .unset, .unset, .unset, .unset, .unset] [(.ref br_2)]))
  refine ak7 X2 hx (hb hby at_72) rfl (l' := #[.val (.int p0), .val (.int p1), .val (.int p2), .val (.int p3), .val (.int p4), .val (.int (p1 &&& (2147483647 : Int32))), .val (.int (p2 &&& (2147483647 : Int32))), .val (.int (p3 &&& (2147483647 : Int32))), .val (.int (p4 &&& (2147483647 : Int32))), .val (.int (p0 &&& (3 : Int32))), .val (.int ((p0 >>> ((2 : Int32) &&& 31)) &&& (3 : Int32))), .val (.int ((p0 >>> ((4 : Int32) &&& 31)) &&& (3 : Int32))), .val (.int ((p0 >>> ((6 : Int32) &&& 31)) &&& (3 : Int32))), .val (.ref br_1), .val (.ref br_2), .unset, .unset, .unset, .unset]) rfl ?_
  refine ak0 X2 hx (hb hby at_74) rfl ?_
  refine ak0 X2 hx (hb hby at_76) rfl ?_
  refine ak0 X2 hx (hb hby at_78) rfl ?_
  refine af1 X2 hx hZ (y := (⟨ci4, "arr", "(III)[I"⟩ : MethodName)) hown (z_w hw 1 rfl) (z_w hw 2 rfl) (z_w hw 3 rfl) (z_w hw 4 rfl) (ca4 l Z a0 hw [] ((p0 >>> ((4 : Int32) &&& 31)) &&& (3 : Int32)) (p3 &&& (2147483647 : Int32)) (p4 &&& (2147483647 : Int32))  T2.heap n0 (Nat.le_trans Z0 K2.1) ) 0 rfl hml' (argsL := [(.int ((p0 >>> ((4 : Int32) &&& 31)) &&& (3 : Int32))), (.int (p3 &&& (2147483647 : Int32))), (.int (p4 &&& (2147483647 : Int32)))]) (rest := []) (lenOf am9 rfl) (hb hby at_80) (fun r4 T4 L4 X4 hQ4 => ?_)
  obtain ⟨br_4, rfl, Nq4, Kq4, cy4, ee4, f0_4⟩ := hQ4
  have N4 := Fr.app N2 Nq4
  have G5 := (f0_1.keep Kq2 nin0)
  have ne6 := z_nc G5.lt cy4
  have ne7 := z_nc f0_2.lt cy4
  have en4 := Nat.le_trans K2.1 cy4
  have hC := hC.trans (CHr.keep Kq4 sf0 hC.1)
  have K4 := Keep.trans K2 Kq4 all0
  show ac0 p e below P (T4.setTop (mkF m 83 #[.val (.int p0), .val (.int p1), .val (.int p2), .val (.int p3), .val (.int p4), .val (.int (p1 &&& (2147483647 : Int32))), .val (.int (p2 &&& (2147483647 : Int32))), .val (.int (p3 &&& (2147483647 : Int32))), .val (.int (p4 &&& (2147483647 : Int32))), .val (.int (p0 &&& (3 : Int32))), .val (.int ((p0 >>> ((2 : Int32) &&& 31)) &&& (3 : Int32))), .val (.int ((p0 >>> ((4 : Int32) &&& 31)) &&& (3 : Int32))), .val (.int ((p0 >>> ((6 : Int32) &&& 31)) &&& (3 : Int32))), .val (.ref br_1), .val (.ref br_2), .unset, .unset, .unset, .unset] [(.ref br_4)]))
  refine ak7 X4 hx (hb hby at_83) rfl (l' := #[.val (.int p0), .val (.int p1), .val (.int p2), .val (.int p3), .val (.int p4), .val (.int (p1 &&& (2147483647 : Int32))), .val (.int (p2 &&& (2147483647 : Int32))), .val (.int (p3 &&& (2147483647 : Int32))), .val (.int (p4 &&& (2147483647 : Int32))), .val (.int (p0 &&& (3 : Int32))), .val (.int ((p0 >>> ((2 : Int32) &&& 31)) &&& (3 : Int32))), .val (.int ((p0 >>> ((4 : Int32) &&& 31)) &&& (3 : Int32))), .val (.int ((p0 >>> ((6 : Int32) &&& 31)) &&& (3 : Int32))), .val (.ref br_1), .val (.ref br_2), .val (.ref br_4), .unset, .unset, .unset]) rfl ?_
  refine ak0 X4 hx (hb hby at_85) rfl ?_
  refine ak0 X4 hx (hb hby at_87) rfl ?_
  refine ak0 X4 hx (hb hby at_89) rfl ?_
  refine af1 X4 hx hZ (y := (⟨ci4, "arr", "(III)[I"⟩ : MethodName)) hown (z_w hw 1 rfl) (z_w hw 2 rfl) (z_w hw 3 rfl) (z_w hw 4 rfl) (ca4 l Z a0 hw [] ((p0 >>> ((6 : Int32) &&& 31)) &&& (3 : Int32)) (p4 &&& (2147483647 : Int32)) (p1 &&& (2147483647 : Int32))  T4.heap n0 (Nat.le_trans Z0 K4.1) ) 0 rfl hml' (argsL := [(.int ((p0 >>> ((6 : Int32) &&& 31)) &&& (3 : Int32))), (.int (p4 &&& (2147483647 : Int32))), (.int (p1 &&& (2147483647 : Int32)))]) (rest := []) (lenOf am9 rfl) (hb hby at_91) (fun r8 T8 L8 X8 hQ8 => ?_)
  obtain ⟨br_8, rfl, Nq8, Kq8, cf4, ef4, f0_8⟩ := hQ8
  have N8 := Fr.app N4 Nq8
  have G9 := (G5.keep Kq4 nin0)
  have ne10 := z_nc G9.lt cf4
  have G11 := (f0_2.keep Kq4 nin0)
  have ne12 := z_nc G11.lt cf4
  have ne13 := z_nc f0_4.lt cf4
  have eo4 := Nat.le_trans K4.1 cf4
  have hC := hC.trans (CHr.keep Kq8 sf0 hC.1)
  have K8 := Keep.trans K4 Kq8 all0
  show ac0 p e below P (T8.setTop (mkF m 94 #[.val (.int p0), .val (.int p1), .val (.int p2), .val (.int p3), .val (.int p4), .val (.int (p1 &&& (2147483647 : Int32))), .val (.int (p2 &&& (2147483647 : Int32))), .val (.int (p3 &&& (2147483647 : Int32))), .val (.int (p4 &&& (2147483647 : Int32))), .val (.int (p0 &&& (3 : Int32))), .val (.int ((p0 >>> ((2 : Int32) &&& 31)) &&& (3 : Int32))), .val (.int ((p0 >>> ((4 : Int32) &&& 31)) &&& (3 : Int32))), .val (.int ((p0 >>> ((6 : Int32) &&& 31)) &&& (3 : Int32))), .val (.ref br_1), .val (.ref br_2), .val (.ref br_4), .unset, .unset, .unset] [(.ref br_8)]))
  refine ak7 X8 hx (hb hby at_94) rfl (l' := #[.val (.int p0), .val (.int p1), .val (.int p2), .val (.int p3), .val (.int p4), .val (.int (p1 &&& (2147483647 : Int32))), .val (.int (p2 &&& (2147483647 : Int32))), .val (.int (p3 &&& (2147483647 : Int32))), .val (.int (p4 &&& (2147483647 : Int32))), .val (.int (p0 &&& (3 : Int32))), .val (.int ((p0 >>> ((2 : Int32) &&& 31)) &&& (3 : Int32))), .val (.int ((p0 >>> ((4 : Int32) &&& 31)) &&& (3 : Int32))), .val (.int ((p0 >>> ((6 : Int32) &&& 31)) &&& (3 : Int32))), .val (.ref br_1), .val (.ref br_2), .val (.ref br_4), .val (.ref br_8), .unset, .unset]) rfl ?_
  obtain ⟨T14, h14, X14, e14, E14, A14, D14, -, st14⟩ := newO X8 hx hZ hown (z_w hw 6 rfl) (z_w hw 7 rfl) (z_w hw 8 rfl) rfl (g := (mkF m 96 #[.val (.int p0), .val (.int p1), .val (.int p2), .val (.int p3), .val (.int p4), .val (.int (p1 &&& (2147483647 : Int32))), .val (.int (p2 &&& (2147483647 : Int32))), .val (.int (p3 &&& (2147483647 : Int32))), .val (.int (p4 &&& (2147483647 : Int32))), .val (.int (p0 &&& (3 : Int32))), .val (.int ((p0 >>> ((2 : Int32) &&& 31)) &&& (3 : Int32))), .val (.int ((p0 >>> ((4 : Int32) &&& 31)) &&& (3 : Int32))), .val (.int ((p0 >>> ((6 : Int32) &&& 31)) &&& (3 : Int32))), .val (.ref br_1), .val (.ref br_2), .val (.ref br_4), .val (.ref br_8), .unset, .unset] [])) rfl (hb hby at_96) (by decide) (by decide)
  obtain ⟨b14, g14⟩ : ∃ z, z = T8.heap.size := ⟨_, rfl⟩
  rw [← g14] at A14 D14 st14
  have hC := hC.trans (CHr.ext E14 hC.1)
  have G16 := (G9.keep Kq8 nin0)
  have ne15 := z_nb G16.lt g14
  have G18 := (G11.keep Kq8 nin0)
  have ne17 := z_nb G18.lt g14
  have G20 := (f0_4.keep Kq8 nin0)
  have ne19 := z_nb G20.lt g14
  have ne21 := z_nb f0_8.lt g14
  have ek2 : n0 ≤ b14 := Nat.le_trans (Nat.le_trans Z0 K8.1) (Nat.le_of_eq g14.symm)
  have er2 : h0.size ≤ b14 := Nat.le_trans K8.1 (Nat.le_of_eq g14.symm)
  have K14 := Keep.ext K8 E14
  have cy9 : Fld Z h14 b14 z_s3 "reads" "[I" .null := D14 (Or.inr (z_w hw 186 rfl)) (ty := (.array .int)) (by decide)
  have cj6 : Fld Z h14 b14 z_s3 "writes" "[I" .null := D14 (Or.inr (z_w hw 189 rfl)) (ty := (.array .int)) (by decide)
  have cz9 : Fld Z h14 b14 z_s3 "locks" "[I" .null := D14 (Or.inr (z_w hw 192 rfl)) (ty := (.array .int)) (by decide)
  have co5 : Fld Z h14 b14 z_s3 "unlocks" "[I" .null := D14 (Or.inr (z_w hw 195 rfl)) (ty := (.array .int)) (by decide)
  have cp5 : Fld Z h14 b14 z_s3 "mutexes" "[I" .null := D14 (Or.inr (z_w hw 207 rfl)) (ty := (.array .int)) (by decide)
  refine ae1 (fun _ => st14 _) ?_
  show ac0 p e below P (T14.setTop (mkF m 99 #[.val (.int p0), .val (.int p1), .val (.int p2), .val (.int p3), .val (.int p4), .val (.int (p1 &&& (2147483647 : Int32))), .val (.int (p2 &&& (2147483647 : Int32))), .val (.int (p3 &&& (2147483647 : Int32))), .val (.int (p4 &&& (2147483647 : Int32))), .val (.int (p0 &&& (3 : Int32))), .val (.int ((p0 >>> ((2 : Int32) &&& 31)) &&& (3 : Int32))), .val (.int ((p0 >>> ((4 : Int32) &&& 31)) &&& (3 : Int32))), .val (.int ((p0 >>> ((6 : Int32) &&& 31)) &&& (3 : Int32))), .val (.ref br_1), .val (.ref br_2), .val (.ref br_4), .val (.ref br_8), .unset, .unset] [(.ref b14)]))
  refine an6 X14 hx (hb hby at_99) rfl ?_
  refine az2 X14 hx (hb hby at_100) rfl rfl ?_
  refine az2 X14 hx (hb hby at_102) rfl rfl ?_
  refine az2 X14 hx (hb hby at_104) rfl rfl ?_
  refine az2 X14 hx (hb hby at_106) rfl rfl ?_
  have G23 := ((an2 (an2 (an2 (an2 af0 Kq1 all0) Kq2 all0) Kq4 all0) Kq8 all0).ext E14)
  have G24 := (G16.ext E14)
  have G25 := (G18.ext E14)
  have G26 := (G20.ext E14)
  have G27 := (f0_8.ext E14)
  have G28 := (Nat.le_trans (Nat.le_trans (Nat.le_trans (Nat.le_trans (Nat.le_trans hk Kq1.1) Kq2.1) Kq4.1) Kq8.1) E14.1)
  refine dc0 X14 hS G28 hEL hC hx hZ (y := (⟨z_s3, "<init>", "([I[I[I[I)V"⟩ : MethodName)) rfl hown (z_w hw 9 rfl) (z_w hw 10 rfl) (z_w hw 8 rfl) (z_w hw 11 rfl) (by decide) (ee2 l Z a0 hw [] b14 br_1 br_2 br_4 br_8 (ar3 (p0 &&& (3 : Int32)) (p1 &&& (2147483647 : Int32)) (p2 &&& (2147483647 : Int32))) (ar3 ((p0 >>> ((2 : Int32) &&& 31)) &&& (3 : Int32)) (p2 &&& (2147483647 : Int32)) (p3 &&& (2147483647 : Int32))) (ar3 ((p0 >>> ((4 : Int32) &&& 31)) &&& (3 : Int32)) (p3 &&& (2147483647 : Int32)) (p4 &&& (2147483647 : Int32))) (ar3 ((p0 >>> ((6 : Int32) &&& 31)) &&& (3 : Int32)) (p4 &&& (2147483647 : Int32)) (p1 &&& (2147483647 : Int32))) aa0 h14 n0 (Nat.le_trans Z0 K14.1) A14 cy9 cj6 cz9 co5 cp5 G23 G24 G25 G26 G27 ek2 ne15.symm ne17.symm ne19.symm ne21.symm hnz (cb4 _ _ _) (cb4 _ _ _) (cb4 _ _ _) (cb4 _ _ _) (cd4 (bn1 _) (bn1 _)) (cd4 (bn1 _) (bn1 _)) (cd4 (bn1 _) (bn1 _)) (cd4 (bn1 _) (bn1 _))) 1 (by decide) (by decide) e14 (by decide) (by decide) (g := (mkF m 108 #[.val (.int p0), .val (.int p1), .val (.int p2), .val (.int p3), .val (.int p4), .val (.int (p1 &&& (2147483647 : Int32))), .val (.int (p2 &&& (2147483647 : Int32))), .val (.int (p3 &&& (2147483647 : Int32))), .val (.int (p4 &&& (2147483647 : Int32))), .val (.int (p0 &&& (3 : Int32))), .val (.int ((p0 >>> ((2 : Int32) &&& 31)) &&& (3 : Int32))), .val (.int ((p0 >>> ((4 : Int32) &&& 31)) &&& (3 : Int32))), .val (.int ((p0 >>> ((6 : Int32) &&& 31)) &&& (3 : Int32))), .val (.ref br_1), .val (.ref br_2), .val (.ref br_4), .val (.ref br_8), .unset, .unset] [(.ref br_8), (.ref br_4), (.ref br_2), (.ref br_1), (.ref b14), (.ref b14)])) rfl (by rw [hml']; rfl) (a := b14) (argsL := [(.ref br_1), (.ref br_2), (.ref br_4), (.ref br_8)]) (rest := [(.ref b14)]) rfl (lenOf ce4 rfl) rfl (by show 2 * 0 + _ ≤ _; exact Nat.le_of_eq rfl) (hb hby at_108) (fun r22 T22 L22 X22 hQ22 hS hZ hown hC => ?_)
  obtain ⟨b1_22, b2_22, b5_22, x1_22, x2_22, x5_22, rfl, Nq22, Kq22, ea22, f1_22, f2_22, f5_22, a1_22, a2_22, a5_22, g1_22, g2_22, g5_22⟩ := hQ22
  have N22 := Fr.app N8 Nq22
  have K22 := Keep.trans K14 Kq22 (allS (Or.inr er2) all0)
  have hk22 : T22.heap.size ≤ T22.heap.size := Nat.le_refl _
  show ac0 p e below P (T22.setTop (mkF m 111 #[.val (.int p0), .val (.int p1), .val (.int p2), .val (.int p3), .val (.int p4), .val (.int (p1 &&& (2147483647 : Int32))), .val (.int (p2 &&& (2147483647 : Int32))), .val (.int (p3 &&& (2147483647 : Int32))), .val (.int (p4 &&& (2147483647 : Int32))), .val (.int (p0 &&& (3 : Int32))), .val (.int ((p0 >>> ((2 : Int32) &&& 31)) &&& (3 : Int32))), .val (.int ((p0 >>> ((4 : Int32) &&& 31)) &&& (3 : Int32))), .val (.int ((p0 >>> ((6 : Int32) &&& 31)) &&& (3 : Int32))), .val (.ref br_1), .val (.ref br_2), .val (.ref br_4), .val (.ref br_8), .unset, .unset] [(.ref b14)]))
  refine ak7 X22 hx (hb hby at_111) rfl (l' := #[.val (.int p0), .val (.int p1), .val (.int p2), .val (.int p3), .val (.int p4), .val (.int (p1 &&& (2147483647 : Int32))), .val (.int (p2 &&& (2147483647 : Int32))), .val (.int (p3 &&& (2147483647 : Int32))), .val (.int (p4 &&& (2147483647 : Int32))), .val (.int (p0 &&& (3 : Int32))), .val (.int ((p0 >>> ((2 : Int32) &&& 31)) &&& (3 : Int32))), .val (.int ((p0 >>> ((4 : Int32) &&& 31)) &&& (3 : Int32))), .val (.int ((p0 >>> ((6 : Int32) &&& 31)) &&& (3 : Int32))), .val (.ref br_1), .val (.ref br_2), .val (.ref br_4), .val (.ref br_8), .val (.ref b14), .unset]) rfl ?_
  refine ak0 X22 hx (hb hby at_113) rfl ?_
  have J34 : ∀ v33 : Int32, v33 = (if (p0 &&& (3 : Int32)) = (0 : Int32) then (if ((p0 >>> ((2 : Int32) &&& 31)) &&& (3 : Int32)) = (0 : Int32) then (if ((p0 >>> ((4 : Int32) &&& 31)) &&& (3 : Int32)) = (0 : Int32) then (if ((p0 >>> ((6 : Int32) &&& 31)) &&& (3 : Int32)) = (0 : Int32) then (1 : Int32) else (0 : Int32)) else (0 : Int32)) else (0 : Int32)) else (0 : Int32)) → ac0 p e below P (T22.setTop (mkF m 138 #[.val (.int p0), .val (.int p1), .val (.int p2), .val (.int p3), .val (.int p4), .val (.int (p1 &&& (2147483647 : Int32))), .val (.int (p2 &&& (2147483647 : Int32))), .val (.int (p3 &&& (2147483647 : Int32))), .val (.int (p4 &&& (2147483647 : Int32))), .val (.int (p0 &&& (3 : Int32))), .val (.int ((p0 >>> ((2 : Int32) &&& 31)) &&& (3 : Int32))), .val (.int ((p0 >>> ((4 : Int32) &&& 31)) &&& (3 : Int32))), .val (.int ((p0 >>> ((6 : Int32) &&& 31)) &&& (3 : Int32))), .val (.ref br_1), .val (.ref br_2), .val (.ref br_4), .val (.ref br_8), .val (.ref b14), .unset] [(.int v33)])) := by
    intro v33 e_v33
    refine ai1 X22 hx (hb hby at_138) (l' := #[.val (.int p0), .val (.int p1), .val (.int p2), .val (.int p3), .val (.int p4), .val (.int (p1 &&& (2147483647 : Int32))), .val (.int (p2 &&& (2147483647 : Int32))), .val (.int (p3 &&& (2147483647 : Int32))), .val (.int (p4 &&& (2147483647 : Int32))), .val (.int (p0 &&& (3 : Int32))), .val (.int ((p0 >>> ((2 : Int32) &&& 31)) &&& (3 : Int32))), .val (.int ((p0 >>> ((4 : Int32) &&& 31)) &&& (3 : Int32))), .val (.int ((p0 >>> ((6 : Int32) &&& 31)) &&& (3 : Int32))), .val (.ref br_1), .val (.ref br_2), .val (.ref br_4), .val (.ref br_8), .val (.ref b14), .val (.int v33)]) rfl ?_
    refine az2 X22 hx (hb hby at_140) rfl rfl ?_
    refine ag2 X22 hx hZ (y := (⟨z_s3, "touchesNothing", "()Z"⟩ : MethodName)) (z := (⟨z_s3, "touchesNothing", "()Z"⟩ : MethodName)) hown (z_w hw 208 rfl) (z_w hw 209 rfl) (notFace_of_selects (args := #[]) (mvT hZ (z_w hw 211 rfl))) (z_w hw 211 rfl) (z_w hw 210 rfl) (z_w hw 8 rfl) (z_w hw 212 rfl) ea22 (eg2 l Z a0 hw [] b14 x1_22 x2_22 x5_22 b1_22 b2_22 b5_22 T22.heap n0 (Nat.le_trans Z0 K22.1) f1_22 f2_22 f5_22 a1_22 a2_22 a5_22) 0 rfl hml' (argsL := []) (rest := []) (lenOf bu5 rfl) (hb hby at_142) (fun r35 T35 L35 X35 hQ35 => ?_)
    obtain ⟨rfl, Nq35, eq35⟩ := hQ35
    have N35 := Fr.app N22 Nq35
    show ac0 p e below P (T35.setTop (mkF m 145 #[.val (.int p0), .val (.int p1), .val (.int p2), .val (.int p3), .val (.int p4), .val (.int (p1 &&& (2147483647 : Int32))), .val (.int (p2 &&& (2147483647 : Int32))), .val (.int (p3 &&& (2147483647 : Int32))), .val (.int (p4 &&& (2147483647 : Int32))), .val (.int (p0 &&& (3 : Int32))), .val (.int ((p0 >>> ((2 : Int32) &&& 31)) &&& (3 : Int32))), .val (.int ((p0 >>> ((4 : Int32) &&& 31)) &&& (3 : Int32))), .val (.int ((p0 >>> ((6 : Int32) &&& 31)) &&& (3 : Int32))), .val (.ref br_1), .val (.ref br_2), .val (.ref br_4), .val (.ref br_8), .val (.ref b14), .val (.int v33)] [(.int (bx2 x1_22 x2_22 x5_22))]))
    refine ak0 X35 hx (hb hby at_145) rfl ?_
    have hd36 : (bx2 x1_22 x2_22 x5_22) = v33 := by rw [e_v33]; exact eh2 g1_22 g2_22 g5_22
    refine av0 X35 hx (hb hby at_147) (teq hd36).2 ?_
    refine am0 X35 hx (hb hby at_150) (z := (1 : Int32)) rfl ?_
    refine am1 X35 hx (pc' := 155) (hb hby at_151) ?_
    exact dj5 X35 hS hk22 eq35 hx hlk hP (t := .boolean) (by simp) hrt (hb hby at_155) (by decide) (by decide) ⟨rfl, N35⟩
  by_cases hc29 : (p0 &&& (3 : Int32)) = (0 : Int32)
  · refine aa3 X22 hx (hb hby at_115) ((if0 _ _).trans (teq hc29).2) ?_
    refine ak0 X22 hx (hb hby at_118) rfl ?_
    by_cases hc37 : ((p0 >>> ((2 : Int32) &&& 31)) &&& (3 : Int32)) = (0 : Int32)
    · refine aa3 X22 hx (hb hby at_120) ((if0 _ _).trans (teq hc37).2) ?_
      refine ak0 X22 hx (hb hby at_123) rfl ?_
      by_cases hc38 : ((p0 >>> ((4 : Int32) &&& 31)) &&& (3 : Int32)) = (0 : Int32)
      · refine aa3 X22 hx (hb hby at_125) ((if0 _ _).trans (teq hc38).2) ?_
        refine ak0 X22 hx (hb hby at_128) rfl ?_
        by_cases hc39 : ((p0 >>> ((6 : Int32) &&& 31)) &&& (3 : Int32)) = (0 : Int32)
        · refine aa3 X22 hx (hb hby at_130) ((if0 _ _).trans (teq hc39).2) ?_
          refine am0 X22 hx (hb hby at_133) (z := (1 : Int32)) rfl ?_
          refine am1 X22 hx (pc' := 138) (hb hby at_134) ?_
          exact J34 _ ((if_pos hc29).trans ((if_pos hc37).trans ((if_pos hc38).trans ((if_pos hc39).trans (rfl))))).symm
        · refine ak4 X22 hx (pc' := 137) (hb hby at_130) ((if0 _ _).trans (feq hc39).2) ?_
          refine am0 X22 hx (hb hby at_137) (z := (0 : Int32)) rfl ?_
          exact J34 _ ((if_pos hc29).trans ((if_pos hc37).trans ((if_pos hc38).trans ((if_neg hc39).trans (rfl))))).symm
      · refine ak4 X22 hx (pc' := 137) (hb hby at_125) ((if0 _ _).trans (feq hc38).2) ?_
        refine am0 X22 hx (hb hby at_137) (z := (0 : Int32)) rfl ?_
        exact J34 _ ((if_pos hc29).trans ((if_pos hc37).trans ((if_neg hc38).trans (rfl)))).symm
    · refine ak4 X22 hx (pc' := 137) (hb hby at_120) ((if0 _ _).trans (feq hc37).2) ?_
      refine am0 X22 hx (hb hby at_137) (z := (0 : Int32)) rfl ?_
      exact J34 _ ((if_pos hc29).trans ((if_neg hc37).trans (rfl))).symm
  · refine ak4 X22 hx (pc' := 137) (hb hby at_115) ((if0 _ _).trans (feq hc29).2) ?_
    refine am0 X22 hx (hb hby at_137) (z := (0 : Int32)) rfl ?_
    exact J34 _ ((if_neg hc29).trans (rfl)).symm
set_option maxRecDepth 65536 in
set_option maxHeartbeats 40000000 in
theorem comes_1 {Post : Tables → Env → Array Value → State → Outcome → State → Prop} (hpost : ∀ tb e args s v u, (limb_1_1.after args s (.returned v) u = true ∧ limb_1_2.after args s (.returned v) u = true ∧ True) → ReturnedEndW s (.returned v) u (Jvm.fieldLocs frame_1_writes args s ++ Jvm.arrayLocs frame_1_arrays args s ++ Jvm.staticLocs frame_1_statics s) 104 7168 → Post tb e args s (.returned v) u) :
    ArmFor flags0 classFile x code maxLocals ret World_1 tables_1 room_1 Calls_1 rest_1 Pre_1 Post := by
  intro l hfl _ _ p e ha hc hk s m args below hf hA hF happ hP
  obtain ⟨hcalls, hrest, hpre⟩ := hP
  obtain ⟨-, -, -, hnamed, -, -, -, hat⟩ := (Spec.applies_iff hf).mp happ
  obtain ⟨hg, hn⟩ := and_e (Cond.before_iff.mp (show (Jvm.Cond.and given_1 narrow_1).before args s = true from hpre))
  obtain ⟨k1, l1⟩ := and_e hg
  obtain ⟨k2, l2⟩ := and_e l1
  obtain ⟨k3, l3⟩ := and_e l2
  obtain ⟨k4, l4⟩ := and_e l3
  obtain ⟨k5, l5⟩ := and_e l4
  obtain ⟨w0, w1, w2, w3, w4, rfl⟩ : ∃ w0 w1 w2 w3 w4 : Value, args = #[w0, w1, w2, w3, w4] := by
    have hs : args.size = 5 := by simpa [Cond.value, given_1] using k1
    obtain ⟨L⟩ := args
    match L, hs with
    | [w0, w1, w2, w3, w4], _ => exact ⟨w0, w1, w2, w3, w4, rfl⟩
  have hw := fun d (hd : d ∈ tables_1) => atoms_spec (ws := Jvm.Cond.code x code maxLocals ret :: tables_1) hat d (List.mem_cons_of_mem _ hd)
  have hfit : Fit s := fun {y c} hc i hi => by
    obtain ⟨ha, rfl⟩ := Array.getElem?_eq_some_iff.mp hc
    have q := List.all_eq_true.mp ((Array.all_eq_true_iff_forall_mem.mp hF) _ (Array.getElem_mem ha)) i (List.mem_range.mpr hi)
    simpa [Array.getElem?_eq_getElem hi] using q
  obtain ⟨hsets, hown0⟩ := atoms_of _ (rest_1_c_eq ▸ (show rest_1_c.before _ s = true from hrest))
  have hr0 := Cond.before_iff.mp hown0
  obtain ⟨i0, ei0⟩ := is_v k2
  obtain rfl : w0 = (.int i0) := Option.some.inj ei0
  obtain ⟨i1, ei1⟩ := is_v k3
  obtain rfl : w1 = (.int i1) := Option.some.inj ei1
  obtain ⟨i2, ei2⟩ := is_v k4
  obtain rfl : w2 = (.int i2) := Option.some.inj ei2
  obtain ⟨i3, ei3⟩ := is_v k5
  obtain rfl : w3 = (.int i3) := Option.some.inj ei3
  obtain ⟨i4, ei4⟩ := is_v l5
  obtain rfl : w4 = (.int i4) := Option.some.inj ei4
  have hi0 := is_v (Cond.before_iff.mp (hsets _ (List.mem_of_getElem? (i := 1) rfl)))
  obtain ⟨cz, ecz⟩ := hi0
  have S1 : Sta s s.heap z_s1 z_s8 "Z" (.int cz) := Sta.start ecz (Or.inl (hsets _ (List.mem_of_getElem? (i := 0) rfl)))
  have hcz : ¬ (cz = (0 : Int32)) := gotF (Cond.eq_ints ecz (Term.int_eval (0))) (not_v (Cond.before_iff.mp (hsets _ (List.mem_of_getElem? (i := 2) rfl))))
  have hcv : CHv s consts_1 s.vm s.heap := CHv.start (bj7 hw) hcalls.1 (hsets _ (List.mem_of_getElem? (i := 2) rfl)) (z_w hw 18 rfl) (z_w hw 17 rfl)
  obtain ⟨n, o, h1, h2, h3, _, L, rfl, ⟨rfl, N⟩, hq⟩ := ep2 l s _ hw tables_1 i0 i1 i2 i3 i4 cz s.heap s.heap.size (Nat.le_refl _) S1 hcz p e ha hc hk s m _ below hf ((Spec.applies_iff_loose hf).mp happ).1 ⟨rfl, State.Warmed39.refl s, rfl, hcv⟩ trivial
  refine ⟨n, _, h1, h2, h3, hpost _ _ _ _ _ _ ⟨Cond.after_iff.mpr rfl, Cond.after_iff.mpr (eq_i res_at (Term.int_eval (1)) rfl), trivial⟩ ⟨hq.1, hq.2.1, hq.2.2.1, (hq.2.2.2.sift fun y hy => Or.inr (N y hy)).mono (by decide) (by decide)⟩⟩
theorem main_1_1 : Claimed_1_1 := comes_1 fun _ _ _ _ _ _ h hF => ⟨h.1, hF⟩
theorem main_1_2 : Claimed_1_2 := comes_1 fun _ _ _ _ _ _ h hF => ⟨h.2.1, hF⟩
end Jvm.Pilot.@@N@@
namespace Jvm.Pilot.@@N@@
open Jvm Jvm.ClassFile Sem Op Lib Jvm.Free Jvm.Stand Jvm.Pilot.@@N@@.Jvm.D
/-! MADE BY PROGRAM (witnessworld.py) out of the Statement's table words and the real class files: 25 classes; the members and pool entries that the words name. The judged class is class 1, her method 2. -/
namespace start1
open Jvm.ClassFile
def u (s : String) : CpInfo := .utf8 (stringToUtf16 s)
/-- a pool by its gaps: so many unusable entries, then the entry; so many at the end -/
def gap : Nat → List CpInfo → List CpInfo
  | 0, r => r
  | n + 1, r => .unusable :: gap n r
def poolList (es : List (Nat × CpInfo)) (last : Nat) : List CpInfo := es.foldr (fun e r => gap e.1 (e.2 :: r)) (gap last [])
def pool (es : List (Nat × CpInfo)) (last : Nat) : Array CpInfo := ⟨poolList es last⟩
def fileOf (pool : Array CpInfo) (this : Nat) (attrs : Array Attribute := #[]) (ms : Array MethodInfo := #[]) (fl : Nat := 33) (sup : Nat := 0) (ifs : Array Nat := #[]) (fds : Array FieldInfo := #[]) : ClassFile where
  minorVersion := 0
  majorVersion := 65
  constantPool := pool
  accessFlags := fl
  thisClass := this
  superClass := sup
  interfaces := ifs
  fields := fds
  methods := ms
  attributes := attrs
def plain (name : String) (sup : Option ClassId) : Class where
  name := name
  kind := .ordinary
  loader := none
  accessFlags := 33
  super := sup
  interfaces := #[]
  cf := none
  fields := #[]
  methods := #[]
  instanceTypes := #[]
  staticTypes := #[]
  resolved := #[]
  callSites := []
  init := .initialized
  statics := none
  mirror := none

def pool0 : Array CpInfo := pool [(5, u "<init>"), (0, u "()V"), (1, .class_ 10), (1, u "java/lang/Object"), (85, u "clone"), (0, u "()Ljava/lang/Object;")] 26

def k0c0 : Code := { maxStack := 0, maxLocals := 1, code := object_method_1_code, exceptionTable := #[], attributes := #[] }
def k0m0 : Method := { name := "<init>", desc := "()V", sig := { parameters := [], returnType := none }, accessFlags := 1, code := some k0c0 }
def k0m1 : Method := { name := "clone", desc := "()Ljava/lang/Object;", sig := { parameters := [], returnType := some (.object "java/lang/Object") }, accessFlags := 260, code := none }
/-- java/lang/Object -/
def k0 : Class := { plain "java/lang/Object" none with
  accessFlags := 33
  interfaces := #[]
  cf := some (fileOf pool0 8 #[] #[{ accessFlags := 1, nameIndex := 5, descriptorIndex := 6, attributes := #[] }, { accessFlags := 260, nameIndex := 96, descriptorIndex := 97, attributes := #[] }] 33 0 #[] #[])
  fields := #[]
  methods := #[k0m0, k0m1]
  instanceTypes := #[]
  staticTypes := #[]
  resolved := Array.replicate 124 none
  statics := none }

def pool1 : Array CpInfo := pool [(2, .class_ 4), (1, u "java/lang/Object"), (0, u "<init>"), (0, u "()V"), (0, .integer 2147483647), (0, .methodref 9 10), (0, .class_ 11), (0, .nameAndType 12 13), (0, u "com/example/interleaving_explorer/interleavingexplorer/engine/AccessTouchesNothingPinLaw"), (0, u "arr"), (0, u "(III)[I"), (0, .class_ 15), (0, u "com/example/interleaving_explorer/interleavingexplorer/engine/Access"), (0, .methodref 14 17), (0, .nameAndType 5 18), (0, u "([I[I[I[I)V"), (0, .methodref 14 20), (0, .nameAndType 21 22), (0, u "touchesNothing"), (0, u "()Z"), (3, u "law"), (0, u "(IIIII)Z")] 4

def k1m0 : Method := { name := "<init>", desc := "()V", sig := { parameters := [], returnType := none }, accessFlags := 2, code := none }
def k1c1 : Code := { maxStack := 4, maxLocals := 3, code := method_2_code, exceptionTable := #[], attributes := #[] }
def k1m1 : Method := { name := "arr", desc := "(III)[I", sig := { parameters := [.int, .int, .int], returnType := some (.array .int) }, accessFlags := 10, code := some k1c1 }
def k1c2 : Code := { maxStack := 6, maxLocals := 19, code := code, exceptionTable := #[], attributes := #[] }
def k1m2 : Method := { name := "law", desc := "(IIIII)Z", sig := { parameters := [.int, .int, .int, .int, .int], returnType := some .boolean }, accessFlags := 9, code := some k1c2 }
/-- com/example/interleaving_explorer/interleavingexplorer/engine/AccessTouchesNothingPinLaw -/
def k1 : Class := { plain "com/example/interleaving_explorer/interleavingexplorer/engine/AccessTouchesNothingPinLaw" (some 0) with
  accessFlags := 49
  interfaces := #[]
  cf := some (fileOf pool1 9 #[] #[{ accessFlags := 2, nameIndex := 5, descriptorIndex := 6, attributes := #[] }, { accessFlags := 10, nameIndex := 12, descriptorIndex := 13, attributes := #[] }, { accessFlags := 9, nameIndex := 26, descriptorIndex := 27, attributes := #[] }] 49 2 #[] #[])
  fields := #[]
  methods := #[k1m0, k1m1, k1m2]
  instanceTypes := #[]
  staticTypes := #[]
  resolved := Array.replicate 32 none
  statics := none }

def pool2 : Array CpInfo := pool [(1, .methodref 2 3), (0, .class_ 4), (0, .nameAndType 5 6), (0, u "java/lang/Object"), (0, u "<init>"), (0, u "()V"), (0, .string 8), (0, u "reads"), (0, .methodref 10 11), (0, .class_ 12), (0, .nameAndType 13 14), (0, u "com/example/interleaving_explorer/interleavingexplorer/engine/Access"), (0, u "distinct"), (0, u "([ILjava/lang/String;)[I"), (0, .fieldref 10 16), (0, .nameAndType 8 17), (0, u "[I"), (0, .string 19), (0, u "writes"), (0, .fieldref 10 21), (0, .nameAndType 19 17), (0, .string 23), (0, u "locks"), (0, .fieldref 10 25), (0, .nameAndType 23 17), (0, .string 27), (0, u "unlocks"), (0, .fieldref 10 29), (0, .nameAndType 27 17), (0, .methodref 10 31), (0, .nameAndType 32 33), (0, u "concatenate"), (0, u "([I[I)[I"), (0, .string 35), (0, u "mutexes"), (0, .fieldref 10 37), (0, .nameAndType 35 17), (2, u "NOTHING"), (0, u "Lcom/example/interleaving_explorer/interleavingexplorer/engine/Access;"), (0, .methodref 43 44), (0, .class_ 17), (0, .nameAndType 45 46), (0, u "clone"), (0, u "()Ljava/lang/Object;"), (2, .methodref 50 51), (0, .class_ 52), (0, .nameAndType 53 54), (0, u "java/util/Objects"), (0, u "requireNonNull"), (0, u "(Ljava/lang/Object;Ljava/lang/String;)Ljava/lang/Object;"), (9, .class_ 66), (1, u "java/util/Arrays"), (2, .methodref 64 70), (0, .nameAndType 71 72), (0, u "copyOf"), (0, u "([II)[I"), (0, .methodref 74 75), (0, .class_ 76), (0, .nameAndType 77 78), (0, u "java/lang/System"), (0, u "arraycopy"), (0, u "(Ljava/lang/Object;ILjava/lang/Object;II)V"), (0, .class_ 80), (0, u "java/lang/StringBuilder"), (0, .methodref 79 3), (0, .methodref 79 83), (0, .nameAndType 84 85), (0, u "append"), (0, u "(Ljava/lang/String;)Ljava/lang/StringBuilder;"), (0, .string 87), (0, u " must not be null"), (0, .methodref 79 89), (0, .nameAndType 90 91), (0, u "toString"), (0, u "()Ljava/lang/String;"), (0, .methodref 64 93), (0, .nameAndType 94 95), (0, u "sort"), (0, u "([I)V"), (12, u "NONE"), (2, u "([I[I[I[I)V"), (5, u "touchesNothing"), (0, u "()Z")] 10

def k2c0 : Code := { maxStack := 3, maxLocals := 5, code := prog_6_method_1_code, exceptionTable := #[], attributes := #[] }
def k2m0 : Method := { name := "<init>", desc := "([I[I[I[I)V", sig := { parameters := [(.array .int), (.array .int), (.array .int), (.array .int)], returnType := none }, accessFlags := 1, code := some k2c0 }
def k2c1 : Code := { maxStack := 1, maxLocals := 1, code := prog_6_method_8_code, exceptionTable := #[], attributes := #[] }
def k2m1 : Method := { name := "touchesNothing", desc := "()Z", sig := { parameters := [], returnType := some .boolean }, accessFlags := 0, code := some k2c1 }
def k2c2 : Code := { maxStack := 5, maxLocals := 3, code := prog_6_method_13_code, exceptionTable := #[], attributes := #[] }
def k2m2 : Method := { name := "concatenate", desc := "([I[I)[I", sig := { parameters := [(.array .int), (.array .int)], returnType := some (.array .int) }, accessFlags := 10, code := some k2c2 }
def k2c3 : Code := { maxStack := 5, maxLocals := 8, code := prog_6_method_14_code, exceptionTable := #[], attributes := #[] }
def k2m3 : Method := { name := "distinct", desc := "([ILjava/lang/String;)[I", sig := { parameters := [(.array .int), (.object "java/lang/String")], returnType := some (.array .int) }, accessFlags := 10, code := some k2c3 }
/-- com/example/interleaving_explorer/interleavingexplorer/engine/Access -/
def k2 : Class := { plain "com/example/interleaving_explorer/interleavingexplorer/engine/Access" (some 0) with
  accessFlags := 33
  interfaces := #[]
  cf := some (fileOf pool2 10 #[] #[{ accessFlags := 1, nameIndex := 5, descriptorIndex := 111, attributes := #[] }, { accessFlags := 0, nameIndex := 117, descriptorIndex := 118, attributes := #[] }, { accessFlags := 10, nameIndex := 32, descriptorIndex := 33, attributes := #[] }, { accessFlags := 10, nameIndex := 13, descriptorIndex := 14, attributes := #[] }] 33 2 #[] #[{ accessFlags := 26, nameIndex := 108, descriptorIndex := 17, attributes := #[] }, { accessFlags := 26, nameIndex := 40, descriptorIndex := 41, attributes := #[] }, { accessFlags := 18, nameIndex := 8, descriptorIndex := 17, attributes := #[] }, { accessFlags := 18, nameIndex := 19, descriptorIndex := 17, attributes := #[] }, { accessFlags := 18, nameIndex := 23, descriptorIndex := 17, attributes := #[] }, { accessFlags := 18, nameIndex := 27, descriptorIndex := 17, attributes := #[] }, { accessFlags := 18, nameIndex := 35, descriptorIndex := 17, attributes := #[] }])
  fields := #[{ name := "NONE", type := (.array .int), accessFlags := 26, slot := 0, constantValue := 0 }, { name := "NOTHING", type := (.object "com/example/interleaving_explorer/interleavingexplorer/engine/Access"), accessFlags := 26, slot := 1, constantValue := 0 }, { name := "reads", type := (.array .int), accessFlags := 18, slot := 0, constantValue := 0 }, { name := "writes", type := (.array .int), accessFlags := 18, slot := 1, constantValue := 0 }, { name := "locks", type := (.array .int), accessFlags := 18, slot := 2, constantValue := 0 }, { name := "unlocks", type := (.array .int), accessFlags := 18, slot := 3, constantValue := 0 }, { name := "mutexes", type := (.array .int), accessFlags := 18, slot := 4, constantValue := 0 }]
  methods := #[k2m0, k2m1, k2m2, k2m3]
  instanceTypes := #[(.array .int), (.array .int), (.array .int), (.array .int), (.array .int)]
  staticTypes := #[(.array .int), (.object "com/example/interleaving_explorer/interleavingexplorer/engine/Access")]
  resolved := Array.replicate 129 none
  statics := none }

def pool3 : Array CpInfo := pool [(1, .class_ 2), (0, u "java/io/Serializable"), (0, .class_ 4), (0, u "java/lang/Object")] 2

/-- java/io/Serializable -/
def k3 : Class := { plain "java/io/Serializable" (some 0) with
  accessFlags := 1537
  interfaces := #[]
  cf := some (fileOf pool3 1 #[] #[] 1537 3 #[] #[])
  fields := #[]
  methods := #[]
  instanceTypes := #[]
  staticTypes := #[]
  resolved := Array.replicate 7 none
  statics := none }

def pool4 : Array CpInfo := pool [(1, .class_ 2), (0, u "java/lang/Comparable"), (0, .class_ 4), (0, u "java/lang/Object")] 7

/-- java/lang/Comparable -/
def k4 : Class := { plain "java/lang/Comparable" (some 0) with
  accessFlags := 1537
  interfaces := #[]
  cf := some (fileOf pool4 1 #[] #[] 1537 3 #[] #[])
  fields := #[]
  methods := #[]
  instanceTypes := #[]
  staticTypes := #[]
  resolved := Array.replicate 12 none
  statics := none }

def pool5 : Array CpInfo := pool [(2, .class_ 4), (1, u "java/lang/CharSequence"), (42, .class_ 48), (0, u "java/lang/CharSequence$1CodePointIterator"), (10, .class_ 60), (0, u "java/lang/CharSequence$1CharIterator"), (5, .class_ 67), (0, u "java/lang/Object")] 63

/-- java/lang/CharSequence -/
def k5 : Class := { plain "java/lang/CharSequence" (some 0) with
  accessFlags := 1537
  interfaces := #[]
  cf := some (fileOf pool5 2 #[.nestMembers #[47, 59]] #[] 1537 66 #[] #[])
  fields := #[]
  methods := #[]
  instanceTypes := #[]
  staticTypes := #[]
  resolved := Array.replicate 131 none
  statics := none }

def pool6 : Array CpInfo := pool [(1, .class_ 2), (0, u "java/lang/constant/Constable"), (0, .class_ 4), (0, u "java/lang/Object")] 6

/-- java/lang/constant/Constable -/
def k6 : Class := { plain "java/lang/constant/Constable" (some 0) with
  accessFlags := 1537
  interfaces := #[]
  cf := some (fileOf pool6 1 #[] #[] 1537 3 #[] #[])
  fields := #[]
  methods := #[]
  instanceTypes := #[]
  staticTypes := #[]
  resolved := Array.replicate 11 none
  statics := none }

def pool7 : Array CpInfo := pool [(1, .class_ 2), (0, u "java/lang/constant/ConstantDesc"), (0, .class_ 4), (0, u "java/lang/Object")] 32

/-- java/lang/constant/ConstantDesc -/
def k7 : Class := { plain "java/lang/constant/ConstantDesc" (some 0) with
  accessFlags := 1537
  interfaces := #[]
  cf := some (fileOf pool7 1 #[] #[] 1537 3 #[] #[])
  fields := #[]
  methods := #[]
  instanceTypes := #[]
  staticTypes := #[]
  resolved := Array.replicate 37 none
  statics := none }

def pool8 : Array CpInfo := pool [(1, .methodref 2 3), (0, .class_ 4), (0, .nameAndType 5 6), (0, u "java/lang/Object"), (0, u "<init>"), (0, u "()V"), (2, .fieldref 10 11), (0, .class_ 12), (0, .nameAndType 13 14), (0, u "java/lang/String"), (0, u "value"), (0, u "[B"), (0, .fieldref 10 16), (0, .nameAndType 17 18), (0, u "coder"), (0, u "B"), (2, u "hash"), (0, u "I"), (2, u "hashIsZero"), (0, u "Z"), (11, .fieldref 10 39), (0, .nameAndType 40 26), (0, u "COMPACT_STRINGS"), (13, .methodref 55 56), (0, .class_ 57), (0, .nameAndType 58 59), (0, u "java/util/Arrays"), (0, u "copyOfRange"), (0, u "([BII)[B"), (82, u "()Z"), (50, .class_ 195), (1, u "java/lang/System"), (16, .methodref 193 213), (0, .nameAndType 214 215), (0, u "arraycopy"), (0, u "(Ljava/lang/Object;ILjava/lang/Object;II)V"), (118, u "()I"), (0, .methodref 10 336), (0, .nameAndType 17 337), (0, u "()B"), (2, u "()[B"), (148, .methodref 10 490), (0, .nameAndType 5 491), (0, u "(Ljava/lang/AbstractStringBuilder;Ljava/lang/Void;)V"), (1, .nameAndType 494 142), (0, u "isLatin1"), (11, .nameAndType 507 334), (0, u "length"), (24, u "getBytes"), (16, .methodref 550 506), (0, .class_ 551), (0, u "java/lang/AbstractStringBuilder"), (0, .methodref 550 553), (0, .nameAndType 554 340), (0, u "getValue"), (20, .class_ 576), (0, u "java/lang/CharSequence"), (22, u "CASE_INSENSITIVE_ORDER"), (0, u "Ljava/util/Comparator;"), (220, u "([BIB)V"), (225, .methodref 550 493), (53, u "serialPersistentFields"), (0, u "[Ljava/io/ObjectStreamField;"), (0, .class_ 1104), (0, u "java/lang/String$CaseInsensitiveComparator"), (1, .class_ 1107), (0, u "java/io/Serializable"), (0, .class_ 1109), (0, u "java/lang/Comparable"), (0, .class_ 1111), (0, u "java/lang/constant/Constable"), (0, .class_ 1113), (0, u "java/lang/constant/ConstantDesc"), (2, u "serialVersionUID"), (0, u "J"), (3, u "REPL"), (0, u "C"), (2, u "LATIN1"), (1, u "UTF16"), (105, u "(Ljava/lang/StringBuilder;)V")] 217

def k8m0 : Method := { name := "<init>", desc := "()V", sig := { parameters := [], returnType := none }, accessFlags := 1, code := none }
def k8c1 : Code := { maxStack := 3, maxLocals := 2, code := jdk_42_method_53_code, exceptionTable := #[], attributes := #[] }
def k8m1 : Method := { name := "<init>", desc := "(Ljava/lang/StringBuilder;)V", sig := { parameters := [(.object "java/lang/StringBuilder")], returnType := none }, accessFlags := 1, code := some k8c1 }
def k8c2 : Code := { maxStack := 2, maxLocals := 1, code := jdk_42_method_54_code, exceptionTable := #[], attributes := #[] }
def k8m2 : Method := { name := "length", desc := "()I", sig := { parameters := [], returnType := some .int }, accessFlags := 1, code := some k8c2 }
def k8c3 : Code := { maxStack := 5, maxLocals := 4, code := jdk_42_method_147_code, exceptionTable := #[], attributes := #[] }
def k8m3 : Method := { name := "getBytes", desc := "([BIB)V", sig := { parameters := [(.array .byte), .int, .byte], returnType := none }, accessFlags := 0, code := some k8c3 }
def k8c4 : Code := { maxStack := 5, maxLocals := 5, code := jdk_42_method_150_code, exceptionTable := #[], attributes := #[] }
def k8m4 : Method := { name := "<init>", desc := "(Ljava/lang/AbstractStringBuilder;Ljava/lang/Void;)V", sig := { parameters := [(.object "java/lang/AbstractStringBuilder"), (.object "java/lang/Void")], returnType := none }, accessFlags := 0, code := some k8c4 }
def k8c5 : Code := { maxStack := 1, maxLocals := 1, code := jdk_42_method_152_code, exceptionTable := #[], attributes := #[] }
def k8m5 : Method := { name := "coder", desc := "()B", sig := { parameters := [], returnType := some .byte }, accessFlags := 0, code := some k8c5 }
/-- java/lang/String -/
def k8 : Class := { plain "java/lang/String" (some 0) with
  accessFlags := 49
  interfaces := #[3, 4, 5, 6, 7]
  cf := some (fileOf pool8 10 #[.nestMembers #[1103]] #[{ accessFlags := 1, nameIndex := 5, descriptorIndex := 6, attributes := #[] }, { accessFlags := 1, nameIndex := 5, descriptorIndex := 1233, attributes := #[] }, { accessFlags := 1, nameIndex := 507, descriptorIndex := 334, attributes := #[] }, { accessFlags := 0, nameIndex := 532, descriptorIndex := 821, attributes := #[] }, { accessFlags := 0, nameIndex := 5, descriptorIndex := 491, attributes := #[] }, { accessFlags := 0, nameIndex := 17, descriptorIndex := 337, attributes := #[] }] 49 2 #[1106, 1108, 575, 1110, 1112] #[{ accessFlags := 18, nameIndex := 13, descriptorIndex := 14, attributes := #[] }, { accessFlags := 18, nameIndex := 17, descriptorIndex := 18, attributes := #[] }, { accessFlags := 2, nameIndex := 21, descriptorIndex := 22, attributes := #[] }, { accessFlags := 2, nameIndex := 25, descriptorIndex := 26, attributes := #[] }, { accessFlags := 26, nameIndex := 1116, descriptorIndex := 1117, attributes := #[] }, { accessFlags := 24, nameIndex := 40, descriptorIndex := 26, attributes := #[] }, { accessFlags := 26, nameIndex := 1101, descriptorIndex := 1102, attributes := #[] }, { accessFlags := 26, nameIndex := 1121, descriptorIndex := 1122, attributes := #[] }, { accessFlags := 25, nameIndex := 599, descriptorIndex := 600, attributes := #[] }, { accessFlags := 24, nameIndex := 1125, descriptorIndex := 18, attributes := #[] }, { accessFlags := 24, nameIndex := 1127, descriptorIndex := 18, attributes := #[] }])
  fields := #[{ name := "value", type := (.array .byte), accessFlags := 18, slot := 0, constantValue := 0 }, { name := "coder", type := .byte, accessFlags := 18, slot := 1, constantValue := 0 }, { name := "hash", type := .int, accessFlags := 2, slot := 2, constantValue := 0 }, { name := "hashIsZero", type := .boolean, accessFlags := 2, slot := 3, constantValue := 0 }, { name := "serialVersionUID", type := .long, accessFlags := 26, slot := 0, constantValue := 0 }, { name := "COMPACT_STRINGS", type := .boolean, accessFlags := 24, slot := 1, constantValue := 0 }, { name := "serialPersistentFields", type := (.array (.object "java/io/ObjectStreamField")), accessFlags := 26, slot := 2, constantValue := 0 }, { name := "REPL", type := .char, accessFlags := 26, slot := 3, constantValue := 0 }, { name := "CASE_INSENSITIVE_ORDER", type := (.object "java/util/Comparator"), accessFlags := 25, slot := 4, constantValue := 0 }, { name := "LATIN1", type := .byte, accessFlags := 24, slot := 5, constantValue := 0 }, { name := "UTF16", type := .byte, accessFlags := 24, slot := 6, constantValue := 0 }]
  methods := #[k8m0, k8m1, k8m2, k8m3, k8m4, k8m5]
  instanceTypes := #[(.array .byte), .byte, .int, .boolean]
  staticTypes := #[.long, .boolean, (.array (.object "java/io/ObjectStreamField")), .char, (.object "java/util/Comparator"), .byte, .byte]
  resolved := Array.replicate 1451 none
  statics := some 0 }

def pool9 : Array CpInfo := pool [(1, .class_ 2), (0, u "java/lang/Appendable"), (0, .class_ 4), (0, u "java/lang/Object")] 9

/-- java/lang/Appendable -/
def k9 : Class := { plain "java/lang/Appendable" (some 0) with
  accessFlags := 1537
  interfaces := #[]
  cf := some (fileOf pool9 1 #[] #[] 1537 3 #[] #[])
  fields := #[]
  methods := #[]
  instanceTypes := #[]
  staticTypes := #[]
  resolved := Array.replicate 14 none
  statics := none }

def pool10 : Array CpInfo := pool [(1, .class_ 2), (0, u "java/lang/String"), (0, .methodref 4 5), (0, .class_ 6), (0, .nameAndType 7 8), (0, u "java/lang/Object"), (0, u "<init>"), (0, u "()V"), (1, .class_ 12), (1, u "java/lang/AbstractStringBuilder"), (0, u "EMPTYVALUE"), (0, u "[B"), (0, .fieldref 10 16), (0, .nameAndType 17 14), (0, u "value"), (0, .fieldref 1 19), (0, .nameAndType 20 21), (0, u "COMPACT_STRINGS"), (0, u "Z"), (0, .fieldref 10 23), (0, .nameAndType 24 25), (0, u "coder"), (0, u "B"), (6, .methodref 1 33), (0, .nameAndType 34 35), (0, u "length"), (0, u "()I"), (3, .integer 2147483647), (0, .methodref 1 41), (0, .nameAndType 24 42), (0, u "()B"), (2, u "append"), (0, u "(Ljava/lang/String;)Ljava/lang/AbstractStringBuilder;"), (1, .class_ 49), (0, u "java/lang/CharSequence"), (19, u "(Ljava/lang/String;)V"), (5, u "maybeLatin1"), (3, .fieldref 10 80), (0, .nameAndType 81 82), (0, u "count"), (0, u "I"), (2, u "isLatin1"), (0, u "()Z"), (13, .methodref 10 101), (0, .nameAndType 102 103), (0, u "ensureCapacityInternal"), (0, u "(I)V"), (0, .methodref 10 105), (0, .nameAndType 106 107), (0, u "newCapacity"), (0, u "(I)I"), (0, .methodref 109 110), (0, .class_ 111), (0, .nameAndType 112 113), (0, u "java/util/Arrays"), (0, u "copyOf"), (0, u "([BI)[B"), (0, .methodref 115 116), (0, .class_ 117), (0, .nameAndType 118 119), (0, u "jdk/internal/util/ArraysSupport"), (0, u "newLength"), (0, u "(III)I"), (88, .methodref 10 209), (0, .nameAndType 210 211), (0, u "putStringAt"), (0, u "(ILjava/lang/String;)V"), (5, u "inflateIfNeededFor"), (2, .nameAndType 221 222), (0, u "getBytes"), (0, u "([BIB)V"), (174, .methodref 10 398), (0, .nameAndType 217 69), (0, .methodref 1 220), (3, u "()[B"), (40, .class_ 445), (0, u "java/lang/Appendable"), (106, u "getValue")] 56

def k10m0 : Method := { name := "<init>", desc := "()V", sig := { parameters := [], returnType := none }, accessFlags := 0, code := none }
def k10c1 : Code := { maxStack := 2, maxLocals := 2, code := jdk_68_method_2_code, exceptionTable := #[], attributes := #[] }
def k10m1 : Method := { name := "<init>", desc := "(I)V", sig := { parameters := [.int], returnType := none }, accessFlags := 0, code := some k10c1 }
def k10c2 : Code := { maxStack := 1, maxLocals := 1, code := jdk_68_method_6_code, exceptionTable := #[], attributes := #[] }
def k10m2 : Method := { name := "length", desc := "()I", sig := { parameters := [], returnType := some .int }, accessFlags := 1, code := some k10c2 }
def k10c3 : Code := { maxStack := 4, maxLocals := 3, code := jdk_68_method_9_code, exceptionTable := #[], attributes := #[] }
def k10m3 : Method := { name := "ensureCapacityInternal", desc := "(I)V", sig := { parameters := [.int], returnType := none }, accessFlags := 2, code := some k10c3 }
def k10c4 : Code := { maxStack := 5, maxLocals := 6, code := jdk_68_method_10_code, exceptionTable := #[], attributes := #[] }
def k10m4 : Method := { name := "newCapacity", desc := "(I)I", sig := { parameters := [.int], returnType := some .int }, accessFlags := 2, code := some k10c4 }
def k10c5 : Code := { maxStack := 3, maxLocals := 3, code := jdk_68_method_22_code, exceptionTable := #[], attributes := #[] }
def k10m5 : Method := { name := "append", desc := "(Ljava/lang/String;)Ljava/lang/AbstractStringBuilder;", sig := { parameters := [(.object "java/lang/String")], returnType := some (.object "java/lang/AbstractStringBuilder") }, accessFlags := 1, code := some k10c5 }
def k10c6 : Code := { maxStack := 1, maxLocals := 1, code := jdk_68_method_64_code, exceptionTable := #[], attributes := #[] }
def k10m6 : Method := { name := "getValue", desc := "()[B", sig := { parameters := [], returnType := some (.array .byte) }, accessFlags := 16, code := some k10c6 }
def k10c7 : Code := { maxStack := 1, maxLocals := 1, code := jdk_68_method_68_code, exceptionTable := #[], attributes := #[] }
def k10m7 : Method := { name := "isLatin1", desc := "()Z", sig := { parameters := [], returnType := some .boolean }, accessFlags := 16, code := some k10c7 }
def k10c8 : Code := { maxStack := 2, maxLocals := 2, code := jdk_68_method_71_code, exceptionTable := #[], attributes := #[] }
def k10m8 : Method := { name := "inflateIfNeededFor", desc := "(Ljava/lang/String;)V", sig := { parameters := [(.object "java/lang/String")], returnType := none }, accessFlags := 2, code := some k10c8 }
def k10c9 : Code := { maxStack := 4, maxLocals := 3, code := jdk_68_method_73_code, exceptionTable := #[], attributes := #[] }
def k10m9 : Method := { name := "putStringAt", desc := "(ILjava/lang/String;)V", sig := { parameters := [.int, (.object "java/lang/String")], returnType := none }, accessFlags := 2, code := some k10c9 }
/-- java/lang/AbstractStringBuilder -/
def k10 : Class := { plain "java/lang/AbstractStringBuilder" (some 0) with
  accessFlags := 1056
  interfaces := #[9, 5]
  cf := some (fileOf pool10 10 #[] #[{ accessFlags := 0, nameIndex := 7, descriptorIndex := 8, attributes := #[] }, { accessFlags := 0, nameIndex := 7, descriptorIndex := 103, attributes := #[] }, { accessFlags := 1, nameIndex := 34, descriptorIndex := 35, attributes := #[] }, { accessFlags := 2, nameIndex := 102, descriptorIndex := 103, attributes := #[] }, { accessFlags := 2, nameIndex := 106, descriptorIndex := 107, attributes := #[] }, { accessFlags := 1, nameIndex := 45, descriptorIndex := 46, attributes := #[] }, { accessFlags := 16, nameIndex := 552, descriptorIndex := 403, attributes := #[] }, { accessFlags := 16, nameIndex := 85, descriptorIndex := 86, attributes := #[] }, { accessFlags := 2, nameIndex := 217, descriptorIndex := 69, attributes := #[] }, { accessFlags := 2, nameIndex := 210, descriptorIndex := 211, attributes := #[] }] 1056 4 #[444, 48] #[{ accessFlags := 0, nameIndex := 17, descriptorIndex := 14, attributes := #[] }, { accessFlags := 0, nameIndex := 24, descriptorIndex := 25, attributes := #[] }, { accessFlags := 0, nameIndex := 75, descriptorIndex := 21, attributes := #[] }, { accessFlags := 0, nameIndex := 81, descriptorIndex := 82, attributes := #[] }, { accessFlags := 26, nameIndex := 13, descriptorIndex := 14, attributes := #[] }])
  fields := #[{ name := "value", type := (.array .byte), accessFlags := 0, slot := 0, constantValue := 0 }, { name := "coder", type := .byte, accessFlags := 0, slot := 1, constantValue := 0 }, { name := "maybeLatin1", type := .boolean, accessFlags := 0, slot := 2, constantValue := 0 }, { name := "count", type := .int, accessFlags := 0, slot := 3, constantValue := 0 }, { name := "EMPTYVALUE", type := (.array .byte), accessFlags := 26, slot := 0, constantValue := 0 }]
  methods := #[k10m0, k10m1, k10m2, k10m3, k10m4, k10m5, k10m6, k10m7, k10m8, k10m9]
  instanceTypes := #[(.array .byte), .byte, .boolean, .int]
  staticTypes := #[(.array .byte)]
  resolved := Array.replicate 609 none
  statics := none }

def pool11 : Array CpInfo := pool [(1, .methodref 2 3), (0, .class_ 4), (0, .nameAndType 5 6), (0, u "java/lang/AbstractStringBuilder"), (0, u "<init>"), (0, u "(I)V"), (11, .class_ 20), (1, u "java/lang/String"), (3, .class_ 26), (1, u "java/lang/StringBuilder"), (0, u "append"), (0, u "(Ljava/lang/String;)Ljava/lang/StringBuilder;"), (0, .methodref 2 30), (0, .nameAndType 27 31), (0, u "(Ljava/lang/String;)Ljava/lang/AbstractStringBuilder;"), (105, .methodref 18 138), (0, .nameAndType 5 139), (0, u "(Ljava/lang/StringBuilder;)V"), (5, u "()V"), (10, u "()I"), (186, .methodref 2 344), (0, .nameAndType 345 156), (0, u "length"), (3, .class_ 350), (0, u "java/lang/Appendable"), (0, .class_ 352), (0, u "java/io/Serializable"), (0, .class_ 354), (0, u "java/lang/Comparable"), (0, .class_ 356), (0, u "java/lang/CharSequence"), (0, u "serialVersionUID"), (0, u "J"), (40, u "toString"), (0, u "()Ljava/lang/String;")] 21

def k11c0 : Code := { maxStack := 2, maxLocals := 1, code := jdk_67_method_1_code, exceptionTable := #[], attributes := #[] }
def k11m0 : Method := { name := "<init>", desc := "()V", sig := { parameters := [], returnType := none }, accessFlags := 1, code := some k11c0 }
def k11c1 : Code := { maxStack := 2, maxLocals := 2, code := jdk_67_method_7_code, exceptionTable := #[], attributes := #[] }
def k11m1 : Method := { name := "append", desc := "(Ljava/lang/String;)Ljava/lang/StringBuilder;", sig := { parameters := [(.object "java/lang/String")], returnType := some (.object "java/lang/StringBuilder") }, accessFlags := 1, code := some k11c1 }
def k11c2 : Code := { maxStack := 3, maxLocals := 1, code := jdk_67_method_42_code, exceptionTable := #[], attributes := #[] }
def k11m2 : Method := { name := "toString", desc := "()Ljava/lang/String;", sig := { parameters := [], returnType := some (.object "java/lang/String") }, accessFlags := 1, code := some k11c2 }
def k11c3 : Code := { maxStack := 1, maxLocals := 1, code := jdk_67_method_93_code, exceptionTable := #[], attributes := #[] }
def k11m3 : Method := { name := "length", desc := "()I", sig := { parameters := [], returnType := some .int }, accessFlags := 4161, code := some k11c3 }
/-- java/lang/StringBuilder -/
def k11 : Class := { plain "java/lang/StringBuilder" (some 10) with
  accessFlags := 49
  interfaces := #[9, 3, 4, 5]
  cf := some (fileOf pool11 24 #[] #[{ accessFlags := 1, nameIndex := 5, descriptorIndex := 145, attributes := #[] }, { accessFlags := 1, nameIndex := 27, descriptorIndex := 28, attributes := #[] }, { accessFlags := 1, nameIndex := 399, descriptorIndex := 400, attributes := #[] }, { accessFlags := 4161, nameIndex := 345, descriptorIndex := 156, attributes := #[] }] 49 2 #[349, 351, 353, 355] #[{ accessFlags := 24, nameIndex := 357, descriptorIndex := 358, attributes := #[] }])
  fields := #[{ name := "serialVersionUID", type := .long, accessFlags := 24, slot := 0, constantValue := 0 }]
  methods := #[k11m0, k11m1, k11m2, k11m3]
  instanceTypes := #[(.array .byte), .byte, .boolean, .int]
  staticTypes := #[.long]
  resolved := Array.replicate 422 none
  statics := none }

def pool12 : Array CpInfo := pool [(2, .class_ 4), (1, u "java/lang/Object"), (0, u "<init>"), (0, u "()V"), (1, .class_ 10), (1, u "java/lang/System"), (0, u "allowSecurityManager"), (0, u "I"), (16, u "cons"), (0, u "Ljava/io/Console;"), (77, .class_ 110), (1, u "java/lang/System$CallersHolder"), (43, u "initialErrStream"), (0, u "Ljava/io/PrintStream;"), (19, u "security"), (0, u "Ljava/lang/SecurityManager;"), (31, .class_ 209), (0, u "java/lang/System$1"), (7, u "props"), (0, u "Ljava/util/Properties;"), (2, u "lineSeparator"), (0, u "Ljava/lang/String;"), (96, .class_ 321), (1, u "java/lang/System$LoggerFinder"), (5, .class_ 328), (0, u "java/lang/System$Logger"), (67, u "err"), (2, u "out"), (91, u "notSupportedJnuEncoding"), (15, u "in"), (17, u "initialIn"), (0, u "Ljava/io/InputStream;"), (35, u "bootLayer"), (0, u "Ljava/lang/ModuleLayer;"), (99, .class_ 664), (0, u "java/lang/System$2"), (9, u "NEVER"), (2, u "MAYBE"), (49, u "arraycopy"), (0, u "(Ljava/lang/Object;ILjava/lang/Object;II)V"), (72, .class_ 802), (0, u "java/lang/System$Logger$Level")] 31

def k12m0 : Method := { name := "<init>", desc := "()V", sig := { parameters := [], returnType := none }, accessFlags := 2, code := none }
def k12m1 : Method := { name := "arraycopy", desc := "(Ljava/lang/Object;ILjava/lang/Object;II)V", sig := { parameters := [(.object "java/lang/Object"), .int, (.object "java/lang/Object"), .int, .int], returnType := none }, accessFlags := 265, code := none }
/-- java/lang/System -/
def k12 : Class := { plain "java/lang/System" (some 0) with
  accessFlags := 49
  interfaces := #[]
  cf := some (fileOf pool12 8 #[.nestMembers #[319, 327, 801, 108, 663, 208]] #[{ accessFlags := 2, nameIndex := 5, descriptorIndex := 6, attributes := #[] }, { accessFlags := 265, nameIndex := 727, descriptorIndex := 728, attributes := #[] }] 49 2 #[] #[{ accessFlags := 25, nameIndex := 507, descriptorIndex := 526, attributes := #[] }, { accessFlags := 25, nameIndex := 399, descriptorIndex := 155, attributes := #[] }, { accessFlags := 25, nameIndex := 396, descriptorIndex := 155, attributes := #[] }, { accessFlags := 10, nameIndex := 525, descriptorIndex := 526, attributes := #[] }, { accessFlags := 26, nameIndex := 674, descriptorIndex := 12, attributes := #[] }, { accessFlags := 26, nameIndex := 677, descriptorIndex := 12, attributes := #[] }, { accessFlags := 10, nameIndex := 11, descriptorIndex := 12, attributes := #[] }, { accessFlags := 74, nameIndex := 175, descriptorIndex := 176, attributes := #[] }, { accessFlags := 10, nameIndex := 491, descriptorIndex := 222, attributes := #[] }, { accessFlags := 74, nameIndex := 29, descriptorIndex := 30, attributes := #[] }, { accessFlags := 74, nameIndex := 154, descriptorIndex := 155, attributes := #[] }, { accessFlags := 10, nameIndex := 217, descriptorIndex := 218, attributes := #[] }, { accessFlags := 10, nameIndex := 221, descriptorIndex := 222, attributes := #[] }, { accessFlags := 8, nameIndex := 562, descriptorIndex := 563, attributes := #[] }])
  fields := #[{ name := "in", type := (.object "java/io/InputStream"), accessFlags := 25, slot := 0, constantValue := 0 }, { name := "out", type := (.object "java/io/PrintStream"), accessFlags := 25, slot := 1, constantValue := 0 }, { name := "err", type := (.object "java/io/PrintStream"), accessFlags := 25, slot := 2, constantValue := 0 }, { name := "initialIn", type := (.object "java/io/InputStream"), accessFlags := 10, slot := 3, constantValue := 0 }, { name := "NEVER", type := .int, accessFlags := 26, slot := 4, constantValue := 0 }, { name := "MAYBE", type := .int, accessFlags := 26, slot := 5, constantValue := 0 }, { name := "allowSecurityManager", type := .int, accessFlags := 10, slot := 6, constantValue := 0 }, { name := "security", type := (.object "java/lang/SecurityManager"), accessFlags := 74, slot := 7, constantValue := 0 }, { name := "notSupportedJnuEncoding", type := (.object "java/lang/String"), accessFlags := 10, slot := 8, constantValue := 0 }, { name := "cons", type := (.object "java/io/Console"), accessFlags := 74, slot := 9, constantValue := 0 }, { name := "initialErrStream", type := (.object "java/io/PrintStream"), accessFlags := 74, slot := 10, constantValue := 0 }, { name := "props", type := (.object "java/util/Properties"), accessFlags := 10, slot := 11, constantValue := 0 }, { name := "lineSeparator", type := (.object "java/lang/String"), accessFlags := 10, slot := 12, constantValue := 0 }, { name := "bootLayer", type := (.object "java/lang/ModuleLayer"), accessFlags := 8, slot := 13, constantValue := 0 }]
  methods := #[k12m0, k12m1]
  instanceTypes := #[]
  staticTypes := #[(.object "java/io/InputStream"), (.object "java/io/PrintStream"), (.object "java/io/PrintStream"), (.object "java/io/InputStream"), .int, .int, .int, (.object "java/lang/SecurityManager"), (.object "java/lang/String"), (.object "java/io/Console"), (.object "java/io/PrintStream"), (.object "java/util/Properties"), (.object "java/lang/String"), (.object "java/lang/ModuleLayer")]
  resolved := Array.replicate 834 none
  statics := none }

def pool13 : Array CpInfo := pool [(9, u "<init>"), (6, .class_ 18), (1, u "java/lang/Object"), (0, u "()V"), (1, .class_ 23), (1, u "jdk/internal/util/ArraysSupport"), (0, u "LOG2_ARRAY_LONG_INDEX_SCALE"), (0, u "I"), (2, u "U"), (0, u "Ljdk/internal/misc/Unsafe;"), (8, u "BIG_ENDIAN"), (0, u "Z"), (8, u "LOG2_BYTE_BIT_SIZE"), (4, u "LOG2_ARRAY_INT_INDEX_SCALE"), (54, u "JLA"), (0, u "Ljdk/internal/access/JavaLangAccess;"), (11, u "LOG2_ARRAY_BOOLEAN_INDEX_SCALE"), (9, u "LOG2_ARRAY_BYTE_INDEX_SCALE"), (5, u "LOG2_ARRAY_CHAR_INDEX_SCALE"), (5, u "LOG2_ARRAY_SHORT_INDEX_SCALE"), (18, u "LOG2_ARRAY_FLOAT_INDEX_SCALE"), (24, u "LOG2_ARRAY_DOUBLE_INDEX_SCALE"), (6, .methodref 195 196), (0, .class_ 197), (0, .nameAndType 198 199), (0, u "java/lang/Math"), (0, u "max"), (0, u "(II)I"), (0, .integer 2147483639), (76, u "T_BOOLEAN"), (2, u "T_CHAR"), (1, u "T_FLOAT"), (1, u "T_DOUBLE"), (1, u "T_BYTE"), (1, u "T_SHORT"), (1, u "T_INT"), (1, u "T_LONG"), (1, u "SOFT_MAX_ARRAY_LENGTH"), (56, u "newLength"), (0, u "(III)I")] 25

def k13m0 : Method := { name := "<init>", desc := "()V", sig := { parameters := [], returnType := none }, accessFlags := 2, code := none }
def k13c1 : Code := { maxStack := 3, maxLocals := 4, code := jdk_48_method_27_code, exceptionTable := #[], attributes := #[] }
def k13m1 : Method := { name := "newLength", desc := "(III)I", sig := { parameters := [.int, .int, .int], returnType := some .int }, accessFlags := 9, code := some k13c1 }
/-- jdk/internal/util/ArraysSupport -/
def k13 : Class := { plain "jdk/internal/util/ArraysSupport" (some 0) with
  accessFlags := 33
  interfaces := #[]
  cf := some (fileOf pool13 21 #[] #[{ accessFlags := 2, nameIndex := 9, descriptorIndex := 19, attributes := #[] }, { accessFlags := 9, nameIndex := 351, descriptorIndex := 352, attributes := #[] }] 33 16 #[] #[{ accessFlags := 24, nameIndex := 28, descriptorIndex := 29, attributes := #[] }, { accessFlags := 26, nameIndex := 38, descriptorIndex := 39, attributes := #[] }, { accessFlags := 25, nameIndex := 121, descriptorIndex := 25, attributes := #[] }, { accessFlags := 25, nameIndex := 131, descriptorIndex := 25, attributes := #[] }, { accessFlags := 25, nameIndex := 137, descriptorIndex := 25, attributes := #[] }, { accessFlags := 25, nameIndex := 143, descriptorIndex := 25, attributes := #[] }, { accessFlags := 25, nameIndex := 53, descriptorIndex := 25, attributes := #[] }, { accessFlags := 25, nameIndex := 24, descriptorIndex := 25, attributes := #[] }, { accessFlags := 25, nameIndex := 162, descriptorIndex := 25, attributes := #[] }, { accessFlags := 25, nameIndex := 187, descriptorIndex := 25, attributes := #[] }, { accessFlags := 26, nameIndex := 48, descriptorIndex := 25, attributes := #[] }, { accessFlags := 25, nameIndex := 277, descriptorIndex := 25, attributes := #[] }, { accessFlags := 25, nameIndex := 280, descriptorIndex := 25, attributes := #[] }, { accessFlags := 25, nameIndex := 282, descriptorIndex := 25, attributes := #[] }, { accessFlags := 25, nameIndex := 284, descriptorIndex := 25, attributes := #[] }, { accessFlags := 25, nameIndex := 286, descriptorIndex := 25, attributes := #[] }, { accessFlags := 25, nameIndex := 288, descriptorIndex := 25, attributes := #[] }, { accessFlags := 25, nameIndex := 290, descriptorIndex := 25, attributes := #[] }, { accessFlags := 25, nameIndex := 292, descriptorIndex := 25, attributes := #[] }, { accessFlags := 26, nameIndex := 108, descriptorIndex := 109, attributes := #[] }, { accessFlags := 25, nameIndex := 294, descriptorIndex := 25, attributes := #[] }])
  fields := #[{ name := "U", type := (.object "jdk/internal/misc/Unsafe"), accessFlags := 24, slot := 0, constantValue := 0 }, { name := "BIG_ENDIAN", type := .boolean, accessFlags := 26, slot := 1, constantValue := 0 }, { name := "LOG2_ARRAY_BOOLEAN_INDEX_SCALE", type := .int, accessFlags := 25, slot := 2, constantValue := 0 }, { name := "LOG2_ARRAY_BYTE_INDEX_SCALE", type := .int, accessFlags := 25, slot := 3, constantValue := 0 }, { name := "LOG2_ARRAY_CHAR_INDEX_SCALE", type := .int, accessFlags := 25, slot := 4, constantValue := 0 }, { name := "LOG2_ARRAY_SHORT_INDEX_SCALE", type := .int, accessFlags := 25, slot := 5, constantValue := 0 }, { name := "LOG2_ARRAY_INT_INDEX_SCALE", type := .int, accessFlags := 25, slot := 6, constantValue := 0 }, { name := "LOG2_ARRAY_LONG_INDEX_SCALE", type := .int, accessFlags := 25, slot := 7, constantValue := 0 }, { name := "LOG2_ARRAY_FLOAT_INDEX_SCALE", type := .int, accessFlags := 25, slot := 8, constantValue := 0 }, { name := "LOG2_ARRAY_DOUBLE_INDEX_SCALE", type := .int, accessFlags := 25, slot := 9, constantValue := 0 }, { name := "LOG2_BYTE_BIT_SIZE", type := .int, accessFlags := 26, slot := 10, constantValue := 0 }, { name := "T_BOOLEAN", type := .int, accessFlags := 25, slot := 11, constantValue := 0 }, { name := "T_CHAR", type := .int, accessFlags := 25, slot := 12, constantValue := 0 }, { name := "T_FLOAT", type := .int, accessFlags := 25, slot := 13, constantValue := 0 }, { name := "T_DOUBLE", type := .int, accessFlags := 25, slot := 14, constantValue := 0 }, { name := "T_BYTE", type := .int, accessFlags := 25, slot := 15, constantValue := 0 }, { name := "T_SHORT", type := .int, accessFlags := 25, slot := 16, constantValue := 0 }, { name := "T_INT", type := .int, accessFlags := 25, slot := 17, constantValue := 0 }, { name := "T_LONG", type := .int, accessFlags := 25, slot := 18, constantValue := 0 }, { name := "JLA", type := (.object "jdk/internal/access/JavaLangAccess"), accessFlags := 26, slot := 19, constantValue := 0 }, { name := "SOFT_MAX_ARRAY_LENGTH", type := .int, accessFlags := 25, slot := 20, constantValue := 0 }]
  methods := #[k13m0, k13m1]
  instanceTypes := #[]
  staticTypes := #[(.object "jdk/internal/misc/Unsafe"), .boolean, .int, .int, .int, .int, .int, .int, .int, .int, .int, .int, .int, .int, .int, .int, .int, .int, .int, (.object "jdk/internal/access/JavaLangAccess"), .int]
  resolved := Array.replicate 378 none
  statics := none }

def pool14 : Array CpInfo := pool [(1, .class_ 2), (0, u "java/lang/Math"), (1, .class_ 6), (1, u "java/lang/Object"), (0, u "<init>"), (0, u "()V"), (89, .class_ 100), (1, u "java/lang/Math$RandomNumberGeneratorHolder"), (71, u "negativeZeroFloatBits"), (0, u "J"), (2, u "negativeZeroDoubleBits"), (21, u "max"), (2, u "min"), (43, u "$assertionsDisabled"), (0, u "Z"), (88, u "(II)I"), (2, u "twoToTheDoubleScaleDown"), (0, u "D"), (4, u "twoToTheDoubleScaleUp"), (9, u "E"), (3, u "PI"), (2, u "TAU"), (2, u "DEGREES_TO_RADIANS"), (0, u "RADIANS_TO_DEGREES")] 94

def k14m0 : Method := { name := "<init>", desc := "()V", sig := { parameters := [], returnType := none }, accessFlags := 2, code := none }
def k14c1 : Code := { maxStack := 2, maxLocals := 2, code := jdk_29_method_65_code, exceptionTable := #[], attributes := #[] }
def k14m1 : Method := { name := "max", desc := "(II)I", sig := { parameters := [.int, .int], returnType := some .int }, accessFlags := 9, code := some k14c1 }
def k14c2 : Code := { maxStack := 2, maxLocals := 2, code := jdk_29_method_69_code, exceptionTable := #[], attributes := #[] }
def k14m2 : Method := { name := "min", desc := "(II)I", sig := { parameters := [.int, .int], returnType := some .int }, accessFlags := 9, code := some k14c2 }
/-- java/lang/Math -/
def k14 : Class := { plain "java/lang/Math" (some 0) with
  accessFlags := 49
  interfaces := #[]
  cf := some (fileOf pool14 1 #[.nestMembers #[98]] #[{ accessFlags := 2, nameIndex := 7, descriptorIndex := 8, attributes := #[] }, { accessFlags := 9, nameIndex := 198, descriptorIndex := 335, attributes := #[] }, { accessFlags := 9, nameIndex := 201, descriptorIndex := 335, attributes := #[] }] 49 4 #[] #[{ accessFlags := 25, nameIndex := 354, descriptorIndex := 339, attributes := #[] }, { accessFlags := 25, nameIndex := 358, descriptorIndex := 339, attributes := #[] }, { accessFlags := 25, nameIndex := 361, descriptorIndex := 339, attributes := #[] }, { accessFlags := 26, nameIndex := 364, descriptorIndex := 339, attributes := #[] }, { accessFlags := 26, nameIndex := 365, descriptorIndex := 339, attributes := #[] }, { accessFlags := 26, nameIndex := 172, descriptorIndex := 173, attributes := #[] }, { accessFlags := 26, nameIndex := 176, descriptorIndex := 173, attributes := #[] }, { accessFlags := 8, nameIndex := 344, descriptorIndex := 339, attributes := #[] }, { accessFlags := 8, nameIndex := 338, descriptorIndex := 339, attributes := #[] }, { accessFlags := 4120, nameIndex := 245, descriptorIndex := 246, attributes := #[] }])
  fields := #[{ name := "E", type := .double, accessFlags := 25, slot := 0, constantValue := 0 }, { name := "PI", type := .double, accessFlags := 25, slot := 1, constantValue := 0 }, { name := "TAU", type := .double, accessFlags := 25, slot := 2, constantValue := 0 }, { name := "DEGREES_TO_RADIANS", type := .double, accessFlags := 26, slot := 3, constantValue := 0 }, { name := "RADIANS_TO_DEGREES", type := .double, accessFlags := 26, slot := 4, constantValue := 0 }, { name := "negativeZeroFloatBits", type := .long, accessFlags := 26, slot := 5, constantValue := 0 }, { name := "negativeZeroDoubleBits", type := .long, accessFlags := 26, slot := 6, constantValue := 0 }, { name := "twoToTheDoubleScaleUp", type := .double, accessFlags := 8, slot := 7, constantValue := 0 }, { name := "twoToTheDoubleScaleDown", type := .double, accessFlags := 8, slot := 8, constantValue := 0 }, { name := "$assertionsDisabled", type := .boolean, accessFlags := 4120, slot := 9, constantValue := 0 }]
  methods := #[k14m0, k14m1, k14m2]
  instanceTypes := #[]
  staticTypes := #[.double, .double, .double, .double, .double, .long, .long, .double, .double, .boolean]
  resolved := Array.replicate 460 none
  statics := none }

def pool15 : Array CpInfo := pool [(2, .class_ 4), (1, u "java/lang/Object"), (0, u "<init>"), (0, u "()V"), (0, .methodref 8 9), (0, .class_ 10), (0, .nameAndType 11 12), (0, u "java/util/DualPivotQuicksort"), (0, u "sort"), (0, u "([IIII)V"), (1, .class_ 16), (1, u "java/util/Arrays"), (57, .class_ 76), (1, u "java/util/Arrays$NaturalOrder"), (32, u "()Ljava/lang/Object;"), (3, .class_ 115), (1, u "java/util/Arrays$LegacyMergeSort"), (1, u "Z"), (10, .nameAndType 129 109), (0, u "clone"), (9, u "copyOfRange"), (10, .methodref 151 152), (0, .class_ 153), (0, .nameAndType 154 155), (0, u "java/lang/System"), (0, u "arraycopy"), (0, u "(Ljava/lang/Object;ILjava/lang/Object;II)V"), (146, u "copyOf"), (1, .methodref 305 306), (0, .class_ 307), (0, .nameAndType 308 309), (0, u "java/lang/Math"), (0, u "min"), (0, u "(II)I"), (6, .methodref 317 128), (0, .class_ 318), (0, u "[I"), (20, .methodref 14 340), (0, .nameAndType 341 342), (0, u "copyOfRangeByte"), (0, u "([BII)[B"), (0, .methodref 14 344), (0, .nameAndType 345 346), (0, u "checkLength"), (0, u "(II)V"), (28, .class_ 376), (0, u "java/util/Arrays$ArrayList"), (68, u "$assertionsDisabled"), (269, u "MIN_ARRAY_SORT_GRAN"), (0, u "I"), (2, u "INSERTIONSORT_THRESHOLD"), (6, u "([I)V"), (142, u "([BI)[B"), (1, u "([II)[I"), (103, .class_ 976), (0, u "java/util/Arrays$ArrayItr")] 52

def k15m0 : Method := { name := "<init>", desc := "()V", sig := { parameters := [], returnType := none }, accessFlags := 2, code := none }
def k15c1 : Code := { maxStack := 4, maxLocals := 1, code := jdk_65_method_2_code, exceptionTable := #[], attributes := #[] }
def k15m1 : Method := { name := "sort", desc := "([I)V", sig := { parameters := [(.array .int)], returnType := none }, accessFlags := 9, code := some k15c1 }
def k15c2 : Code := { maxStack := 6, maxLocals := 3, code := jdk_65_method_121_code, exceptionTable := #[], attributes := #[] }
def k15m2 : Method := { name := "copyOf", desc := "([BI)[B", sig := { parameters := [(.array .byte), .int], returnType := some (.array .byte) }, accessFlags := 9, code := some k15c2 }
def k15c3 : Code := { maxStack := 6, maxLocals := 3, code := jdk_65_method_123_code, exceptionTable := #[], attributes := #[] }
def k15m3 : Method := { name := "copyOf", desc := "([II)[I", sig := { parameters := [(.array .int), .int], returnType := some (.array .int) }, accessFlags := 9, code := some k15c3 }
def k15c4 : Code := { maxStack := 4, maxLocals := 2, code := jdk_65_method_131_code, exceptionTable := #[], attributes := #[] }
def k15m4 : Method := { name := "checkLength", desc := "(II)V", sig := { parameters := [.int, .int], returnType := none }, accessFlags := 10, code := some k15c4 }
def k15c5 : Code := { maxStack := 3, maxLocals := 3, code := jdk_65_method_132_code, exceptionTable := #[], attributes := #[] }
def k15m5 : Method := { name := "copyOfRange", desc := "([BII)[B", sig := { parameters := [(.array .byte), .int, .int], returnType := some (.array .byte) }, accessFlags := 9, code := some k15c5 }
def k15c6 : Code := { maxStack := 6, maxLocals := 5, code := jdk_65_method_133_code, exceptionTable := #[], attributes := #[] }
def k15m6 : Method := { name := "copyOfRangeByte", desc := "([BII)[B", sig := { parameters := [(.array .byte), .int, .int], returnType := some (.array .byte) }, accessFlags := 10, code := some k15c6 }
/-- java/util/Arrays -/
def k15 : Class := { plain "java/util/Arrays" (some 0) with
  accessFlags := 49
  interfaces := #[]
  cf := some (fileOf pool15 14 #[.nestMembers #[975, 375, 113, 74]] #[{ accessFlags := 2, nameIndex := 5, descriptorIndex := 6, attributes := #[] }, { accessFlags := 9, nameIndex := 11, descriptorIndex := 726, attributes := #[] }, { accessFlags := 9, nameIndex := 302, descriptorIndex := 869, attributes := #[] }, { accessFlags := 9, nameIndex := 302, descriptorIndex := 871, attributes := #[] }, { accessFlags := 10, nameIndex := 345, descriptorIndex := 346, attributes := #[] }, { accessFlags := 9, nameIndex := 139, descriptorIndex := 342, attributes := #[] }, { accessFlags := 10, nameIndex := 341, descriptorIndex := 342, attributes := #[] }] 49 2 #[] #[{ accessFlags := 26, nameIndex := 715, descriptorIndex := 716, attributes := #[] }, { accessFlags := 26, nameIndex := 719, descriptorIndex := 716, attributes := #[] }, { accessFlags := 4120, nameIndex := 445, descriptorIndex := 117, attributes := #[] }])
  fields := #[{ name := "MIN_ARRAY_SORT_GRAN", type := .int, accessFlags := 26, slot := 0, constantValue := 0 }, { name := "INSERTIONSORT_THRESHOLD", type := .int, accessFlags := 26, slot := 1, constantValue := 0 }, { name := "$assertionsDisabled", type := .boolean, accessFlags := 4120, slot := 2, constantValue := 0 }]
  methods := #[k15m0, k15m1, k15m2, k15m3, k15m4, k15m5, k15m6]
  instanceTypes := #[]
  staticTypes := #[.int, .int, .boolean]
  resolved := Array.replicate 1029 none
  statics := none }

def pool16 : Array CpInfo := pool [(2, .class_ 4), (1, u "java/lang/Object"), (0, u "<init>"), (0, u "()V"), (35, .class_ 44), (1, u "java/util/Objects"), (0, u "requireNonNull"), (48, u "(Ljava/lang/Object;Ljava/lang/String;)Ljava/lang/Object;")] 89

def k16m0 : Method := { name := "<init>", desc := "()V", sig := { parameters := [], returnType := none }, accessFlags := 2, code := none }
def k16c1 : Code := { maxStack := 3, maxLocals := 2, code := jdk_31_method_11_code, exceptionTable := #[], attributes := #[] }
def k16m1 : Method := { name := "requireNonNull", desc := "(Ljava/lang/Object;Ljava/lang/String;)Ljava/lang/Object;", sig := { parameters := [(.object "java/lang/Object"), (.object "java/lang/String")], returnType := some (.object "java/lang/Object") }, accessFlags := 9, code := some k16c1 }
/-- java/util/Objects -/
def k16 : Class := { plain "java/util/Objects" (some 0) with
  accessFlags := 49
  interfaces := #[]
  cf := some (fileOf pool16 42 #[] #[{ accessFlags := 2, nameIndex := 5, descriptorIndex := 6, attributes := #[] }, { accessFlags := 9, nameIndex := 45, descriptorIndex := 94, attributes := #[] }] 49 2 #[] #[])
  fields := #[]
  methods := #[k16m0, k16m1]
  instanceTypes := #[]
  staticTypes := #[]
  resolved := Array.replicate 184 none
  statics := none }

def pool17 : Array CpInfo := pool [(1, .class_ 2), (0, u "java/lang/Cloneable"), (0, .class_ 4), (0, u "java/lang/Object")] 2

/-- java/lang/Cloneable -/
def k17 : Class := { plain "java/lang/Cloneable" (some 0) with
  accessFlags := 1537
  interfaces := #[]
  cf := some (fileOf pool17 1 #[] #[] 1537 3 #[] #[])
  fields := #[]
  methods := #[]
  instanceTypes := #[]
  staticTypes := #[]
  resolved := Array.replicate 7 none
  statics := none }

def pool18 : Array CpInfo := pool [(1, .class_ 2), (0, u "java/util/DualPivotQuicksort"), (5, .class_ 10), (1, u "java/lang/Object"), (0, u "<init>"), (0, u "()V"), (4, .class_ 18), (0, u "java/util/DualPivotQuicksort$Sorter"), (7, .methodref 1 27), (0, .nameAndType 28 29), (0, u "sort"), (0, u "(Ljava/util/DualPivotQuicksort$Sorter;[IIII)V"), (3, u "([IIII)V"), (0, .methodref 1 35), (0, .nameAndType 36 37), (0, u "insertionSort"), (0, u "([III)V"), (30, u "I"), (4, .class_ 74), (0, u "java/util/DualPivotQuicksort$RunMerger"), (10, .class_ 86), (0, u "java/util/DualPivotQuicksort$Merger"), (127, u "MAX_MIXED_INSERTION_SORT_SIZE"), (2, u "MAX_INSERTION_SORT_SIZE"), (1, u "MIN_PARALLEL_SORT_SIZE"), (1, u "MIN_TRY_MERGE_SIZE"), (0, u "MIN_FIRST_RUN_SIZE"), (1, u "MIN_FIRST_RUNS_FACTOR"), (1, u "MAX_RUN_CAPACITY"), (1, u "MIN_RUN_COUNT"), (1, u "MIN_PARALLEL_MERGE_PARTS_SIZE"), (0, u "MIN_BYTE_COUNTING_SORT_SIZE"), (1, u "MIN_SHORT_OR_CHAR_COUNTING_SORT_SIZE"), (1, u "DELTA"), (1, u "MAX_RECURSION_DEPTH"), (1, u "NUM_BYTE_VALUES"), (1, u "MAX_BYTE_INDEX"), (0, u "NUM_CHAR_VALUES"), (0, u "NUM_SHORT_VALUES"), (0, u "MAX_SHORT_INDEX")] 86

def k18m0 : Method := { name := "<init>", desc := "()V", sig := { parameters := [], returnType := none }, accessFlags := 2, code := none }
def k18c1 : Code := { maxStack := 9, maxLocals := 7, code := jdk_2529_method_3_code, exceptionTable := #[], attributes := #[] }
def k18m1 : Method := { name := "sort", desc := "([IIII)V", sig := { parameters := [(.array .int), .int, .int, .int], returnType := none }, accessFlags := 8, code := some k18c1 }
def k18c2 : Code := { maxStack := 6, maxLocals := 21, code := jdk_2529_method_4_code, exceptionTable := #[], attributes := #[] }
def k18m2 : Method := { name := "sort", desc := "(Ljava/util/DualPivotQuicksort$Sorter;[IIII)V", sig := { parameters := [(.object "java/util/DualPivotQuicksort$Sorter"), (.array .int), .int, .int, .int], returnType := none }, accessFlags := 8, code := some k18c2 }
def k18c3 : Code := { maxStack := 4, maxLocals := 6, code := jdk_2529_method_6_code, exceptionTable := #[], attributes := #[] }
def k18m3 : Method := { name := "insertionSort", desc := "([III)V", sig := { parameters := [(.array .int), .int, .int], returnType := none }, accessFlags := 10, code := some k18c3 }
/-- java/util/DualPivotQuicksort -/
def k18 : Class := { plain "java/util/DualPivotQuicksort" (some 0) with
  accessFlags := 48
  interfaces := #[]
  cf := some (fileOf pool18 1 #[.nestMembers #[73, 85, 17]] #[{ accessFlags := 2, nameIndex := 11, descriptorIndex := 12, attributes := #[] }, { accessFlags := 8, nameIndex := 28, descriptorIndex := 33, attributes := #[] }, { accessFlags := 8, nameIndex := 28, descriptorIndex := 29, attributes := #[] }, { accessFlags := 10, nameIndex := 36, descriptorIndex := 37, attributes := #[] }] 48 8 #[] #[{ accessFlags := 26, nameIndex := 214, descriptorIndex := 68, attributes := #[] }, { accessFlags := 26, nameIndex := 217, descriptorIndex := 68, attributes := #[] }, { accessFlags := 26, nameIndex := 219, descriptorIndex := 68, attributes := #[] }, { accessFlags := 26, nameIndex := 221, descriptorIndex := 68, attributes := #[] }, { accessFlags := 26, nameIndex := 222, descriptorIndex := 68, attributes := #[] }, { accessFlags := 26, nameIndex := 224, descriptorIndex := 68, attributes := #[] }, { accessFlags := 26, nameIndex := 226, descriptorIndex := 68, attributes := #[] }, { accessFlags := 26, nameIndex := 228, descriptorIndex := 68, attributes := #[] }, { accessFlags := 26, nameIndex := 230, descriptorIndex := 68, attributes := #[] }, { accessFlags := 26, nameIndex := 231, descriptorIndex := 68, attributes := #[] }, { accessFlags := 26, nameIndex := 233, descriptorIndex := 68, attributes := #[] }, { accessFlags := 26, nameIndex := 235, descriptorIndex := 68, attributes := #[] }, { accessFlags := 26, nameIndex := 237, descriptorIndex := 68, attributes := #[] }, { accessFlags := 26, nameIndex := 239, descriptorIndex := 68, attributes := #[] }, { accessFlags := 26, nameIndex := 241, descriptorIndex := 68, attributes := #[] }, { accessFlags := 26, nameIndex := 242, descriptorIndex := 68, attributes := #[] }, { accessFlags := 26, nameIndex := 243, descriptorIndex := 68, attributes := #[] }, { accessFlags := 26, nameIndex := 244, descriptorIndex := 68, attributes := #[] }])
  fields := #[{ name := "MAX_MIXED_INSERTION_SORT_SIZE", type := .int, accessFlags := 26, slot := 0, constantValue := 0 }, { name := "MAX_INSERTION_SORT_SIZE", type := .int, accessFlags := 26, slot := 1, constantValue := 0 }, { name := "MIN_PARALLEL_SORT_SIZE", type := .int, accessFlags := 26, slot := 2, constantValue := 0 }, { name := "MIN_TRY_MERGE_SIZE", type := .int, accessFlags := 26, slot := 3, constantValue := 0 }, { name := "MIN_FIRST_RUN_SIZE", type := .int, accessFlags := 26, slot := 4, constantValue := 0 }, { name := "MIN_FIRST_RUNS_FACTOR", type := .int, accessFlags := 26, slot := 5, constantValue := 0 }, { name := "MAX_RUN_CAPACITY", type := .int, accessFlags := 26, slot := 6, constantValue := 0 }, { name := "MIN_RUN_COUNT", type := .int, accessFlags := 26, slot := 7, constantValue := 0 }, { name := "MIN_PARALLEL_MERGE_PARTS_SIZE", type := .int, accessFlags := 26, slot := 8, constantValue := 0 }, { name := "MIN_BYTE_COUNTING_SORT_SIZE", type := .int, accessFlags := 26, slot := 9, constantValue := 0 }, { name := "MIN_SHORT_OR_CHAR_COUNTING_SORT_SIZE", type := .int, accessFlags := 26, slot := 10, constantValue := 0 }, { name := "DELTA", type := .int, accessFlags := 26, slot := 11, constantValue := 0 }, { name := "MAX_RECURSION_DEPTH", type := .int, accessFlags := 26, slot := 12, constantValue := 0 }, { name := "NUM_BYTE_VALUES", type := .int, accessFlags := 26, slot := 13, constantValue := 0 }, { name := "MAX_BYTE_INDEX", type := .int, accessFlags := 26, slot := 14, constantValue := 0 }, { name := "NUM_CHAR_VALUES", type := .int, accessFlags := 26, slot := 15, constantValue := 0 }, { name := "NUM_SHORT_VALUES", type := .int, accessFlags := 26, slot := 16, constantValue := 0 }, { name := "MAX_SHORT_INDEX", type := .int, accessFlags := 26, slot := 17, constantValue := 0 }]
  methods := #[k18m0, k18m1, k18m2, k18m3]
  instanceTypes := #[]
  staticTypes := #[.int, .int, .int, .int, .int, .int, .int, .int, .int, .int, .int, .int, .int, .int, .int, .int, .int, .int]
  resolved := Array.replicate 331 none
  statics := none }

def pool19 : Array CpInfo := pool [(4, .class_ 6), (1, u "java/lang/Object"), (0, u "<init>"), (0, u "()V"), (5, .class_ 16), (1, u "java/lang/StringLatin1"), (104, u "$assertionsDisabled"), (0, u "Z"), (98, .class_ 223), (1, u "java/lang/StringLatin1$LinesSpliterator"), (166, .class_ 391), (0, u "java/lang/StringLatin1$CharsSpliterator")] 3

def k19m0 : Method := { name := "<init>", desc := "()V", sig := { parameters := [], returnType := none }, accessFlags := 0, code := none }
/-- java/lang/StringLatin1 -/
def k19 : Class := { plain "java/lang/StringLatin1" (some 0) with
  accessFlags := 48
  interfaces := #[]
  cf := some (fileOf pool19 14 #[.nestMembers #[390, 221]] #[{ accessFlags := 0, nameIndex := 7, descriptorIndex := 8, attributes := #[] }] 48 4 #[] #[{ accessFlags := 4120, nameIndex := 121, descriptorIndex := 122, attributes := #[] }])
  fields := #[{ name := "$assertionsDisabled", type := .boolean, accessFlags := 4120, slot := 0, constantValue := 0 }]
  methods := #[k19m0]
  instanceTypes := #[]
  staticTypes := #[.boolean]
  resolved := Array.replicate 395 none
  statics := none }

def pool20 : Array CpInfo := pool [(2, .class_ 4), (1, u "java/lang/Object"), (0, u "<init>"), (0, u "()V"), (17, .class_ 26), (1, u "jdk/internal/util/Preconditions"), (28, .class_ 56), (0, u "jdk/internal/util/Preconditions$4"), (57, .class_ 115), (0, u "jdk/internal/util/Preconditions$1"), (7, u "SIOOBE_FORMATTER"), (0, u "Ljava/util/function/BiFunction;"), (0, .class_ 126), (0, u "jdk/internal/util/Preconditions$2"), (3, u "AIOOBE_FORMATTER"), (0, .class_ 132), (0, u "jdk/internal/util/Preconditions$3"), (3, u "IOOBE_FORMATTER")] 57

def k20m0 : Method := { name := "<init>", desc := "()V", sig := { parameters := [], returnType := none }, accessFlags := 1, code := none }
/-- jdk/internal/util/Preconditions -/
def k20 : Class := { plain "jdk/internal/util/Preconditions" (some 0) with
  accessFlags := 33
  interfaces := #[]
  cf := some (fileOf pool20 24 #[.nestMembers #[55, 131, 125, 114]] #[{ accessFlags := 1, nameIndex := 5, descriptorIndex := 6, attributes := #[] }] 33 2 #[] #[{ accessFlags := 25, nameIndex := 123, descriptorIndex := 124, attributes := #[] }, { accessFlags := 25, nameIndex := 130, descriptorIndex := 124, attributes := #[] }, { accessFlags := 25, nameIndex := 136, descriptorIndex := 124, attributes := #[] }])
  fields := #[{ name := "SIOOBE_FORMATTER", type := (.object "java/util/function/BiFunction"), accessFlags := 25, slot := 0, constantValue := 0 }, { name := "AIOOBE_FORMATTER", type := (.object "java/util/function/BiFunction"), accessFlags := 25, slot := 1, constantValue := 0 }, { name := "IOOBE_FORMATTER", type := (.object "java/util/function/BiFunction"), accessFlags := 25, slot := 2, constantValue := 0 }]
  methods := #[k20m0]
  instanceTypes := #[]
  staticTypes := #[(.object "java/util/function/BiFunction"), (.object "java/util/function/BiFunction"), (.object "java/util/function/BiFunction")]
  resolved := Array.replicate 194 none
  statics := some 1 }

/-- the primitive byte -/
def k21 : Class := { plain "byte" none with kind := .primitive 'B', accessFlags := 0x411 }
/-- [B -/
def k22 : Class := { plain "[B" (some 0) with kind := .array 21 .byte, interfaces := #[17, 3], accessFlags := 1041 }

/-- the primitive int -/
def k23 : Class := { plain "int" none with kind := .primitive 'I', accessFlags := 0x411 }
/-- [I -/
def k24 : Class := { plain "[I" (some 0) with kind := .array 23 .int, interfaces := #[17, 3], accessFlags := 1041 }

def heap : Heap := #[{ cls := 8, slots := #[.long 0, .int 1, .null, .int 0, .null, .int 0, .int 0], vm := .statics 8 },
  { cls := 20, slots := #[.null, .null, .null], vm := .statics 20 }]
def classes : Array Class := #[k0, k1, k2, k3, k4, k5, k6, k7, k8, k9, k10, k11, k12, k13, k14, k15, k16, k17, k18, k19, k20, k21, k22, k23, k24]
def interned : List (Array UInt16 × Addr) := []
def slotsUsed : Nat := 10
def theMethod : MethodId := ⟨1, 2⟩
def args0 : Array Value := #[.int 5, .int 5, .int 5, .int 5, .int 5]
def aboutOver (below : List Frame) : State where
  vm := { classes := classes, interned := interned.toArray }
  heap := heap
  slotsUsed := slotsUsed
  threads := #[{ frames := .invoking theMethod args0 :: below }]
def below0 : List Frame := [.native { method := ⟨0, 0⟩, args := #[] }]
def about1 : State := aboutOver below0
def p0 : Program := .bare "" "" ""
def e0 : Env := launch0.env 0 0 0
theorem w_frames : about1.frames = Frame.invoking theMethod args0 :: below0 := rfl
set_option maxRecDepth 65536 in
theorem w_args : argsFit about1.vm theMethod args0 = true := by decide +kernel
set_option maxRecDepth 65536 in
theorem w_heap : heapFits about1 = true := by decide +kernel
set_option maxRecDepth 65536 in
theorem w_runnable : about1.curStatus? = some .runnable := by decide +kernel
set_option maxRecDepth 65536 in
theorem w_alone : about1.alone = true := by decide +kernel
set_option maxRecDepth 65536 in
theorem w_named : about1.methodNamed? x = some theMethod := by decide +kernel
set_option maxRecDepth 65536 in
theorem w_hears : about1.hears theMethod below0 = true := by decide +kernel
set_option maxRecDepth 65536 in
theorem w_ripe : about1.ripe theMethod args0 below0 = true := by decide +kernel
theorem w_running : about1.status = .running := rfl
set_option maxRecDepth 65536 in
theorem w_room : about1.hasRoom e0.platform room_1 = true :=
  launch0.hasRoom_least _ room_1 (by decide +kernel) (by decide +kernel) (by decide +kernel) (by decide +kernel) (by decide +kernel) (by decide +kernel)
theorem allAtoms_all (ts : List Jvm.Cond) (a : Array Jvm.Value) (st : Jvm.State) : (allAtoms ts).before a st = ts.all (fun c => c.before a st) := by
  induction ts with
  | nil => rfl
  | cons c t ih =>
    show (Jvm.Cond.and c (allAtoms t)).before a st = _
    rw [Jvm.Cond.before_and, ih, List.all_cons]
def words1 : List Jvm.Cond := Jvm.Cond.code x code maxLocals ret :: tables_1
/-- a 'code' word, met by the world's own term for the bytes: nothing is compared byte by byte -/
theorem code_word {y : MethodName} {bytes : ByteArray} {mx : Nat} {rt : Option FieldType} {a : Array Value} {s : State} {m : MethodId} {meth : Method} {c : Code} (h1 : s.methodNamed? y = some m) (h2 : s.vm.method? m = some meth) (h3 : meth.code = some c) (h4 : c.code = bytes)
    (h5 : (c.maxLocals == mx && c.exceptionTable.isEmpty && decide (c.maxStack ≤ mostOperands) && decide (meth.sig.returnType = rt) && !meth.locks && decide (parseMethodDescriptor y.desc = some meth.sig)) = true) : (Jvm.Cond.code y bytes mx rt).before a s = true := by
  simp only [Bool.and_eq_true, beq_iff_eq, Bool.not_eq_true', decide_eq_true_eq] at h5
  obtain ⟨⟨⟨⟨⟨g1, g2⟩, g3⟩, g4⟩, g5⟩, g6⟩ := h5
  simp [Cond.before, Cond.holds, Cond.value, h1, h2, h3, h4, g1, g2, g3, g4, g5, g6]
def isCode : Jvm.Cond → Bool
  | .code _ _ _ _ => true
  | _ => false
theorem all_split {L : List Jvm.Cond} {P : Jvm.Cond → Bool} (h1 : L.all (fun c => isCode c || P c) = true) (h2 : ∀ c ∈ L.filter isCode, P c = true) : L.all P = true := by
  refine List.all_eq_true.mpr fun c hc => ?_
  have h := List.all_eq_true.mp h1 c hc
  rcases Bool.eq_false_or_eq_true (isCode c) with hi | hi
  · exact h2 c (List.mem_filter.mpr ⟨hc, hi⟩)
  · simpa [hi] using h
set_option maxRecDepth 65536 in
theorem w_c0 : (Jvm.Cond.code x code maxLocals ret).before args0 about1 = true := code_word (m := ⟨1, 2⟩) (meth := k1m2) (c := k1c2) (by decide +kernel) rfl rfl rfl (by decide +kernel)
set_option maxRecDepth 65536 in
theorem w_c1 : (Jvm.Cond.code ({ cls := "com/example/interleaving_explorer/interleavingexplorer/engine/AccessTouchesNothingPinLaw", name := "arr", desc := "(III)[I" } : Jvm.MethodName) method_2_code (3 : Nat) (Option.some (Jvm.ClassFile.FieldType.array Jvm.ClassFile.FieldType.int))).before args0 about1 = true := code_word (m := ⟨1, 1⟩) (meth := k1m1) (c := k1c1) (by decide +kernel) rfl rfl rfl (by decide +kernel)
set_option maxRecDepth 65536 in
theorem w_c2 : (Jvm.Cond.code ({ cls := "com/example/interleaving_explorer/interleavingexplorer/engine/Access", name := "<init>", desc := "([I[I[I[I)V" } : Jvm.MethodName) prog_6_method_1_code (5 : Nat) (Option.none : Option Jvm.ClassFile.FieldType)).before args0 about1 = true := code_word (m := ⟨2, 0⟩) (meth := k2m0) (c := k2c0) (by decide +kernel) rfl rfl rfl (by decide +kernel)
set_option maxRecDepth 65536 in
theorem w_c3 : (Jvm.Cond.code ({ cls := "java/lang/Object", name := "<init>", desc := "()V" } : Jvm.MethodName) object_method_1_code (1 : Nat) (Option.none : Option Jvm.ClassFile.FieldType)).before args0 about1 = true := code_word (m := ⟨0, 0⟩) (meth := k0m0) (c := k0c0) (by decide +kernel) rfl rfl rfl (by decide +kernel)
set_option maxRecDepth 65536 in
theorem w_c4 : (Jvm.Cond.code ({ cls := "com/example/interleaving_explorer/interleavingexplorer/engine/Access", name := "distinct", desc := "([ILjava/lang/String;)[I" } : Jvm.MethodName) prog_6_method_14_code (8 : Nat) (Option.some (Jvm.ClassFile.FieldType.array Jvm.ClassFile.FieldType.int))).before args0 about1 = true := code_word (m := ⟨2, 3⟩) (meth := k2m3) (c := k2c3) (by decide +kernel) rfl rfl rfl (by decide +kernel)
set_option maxRecDepth 65536 in
theorem w_c5 : (Jvm.Cond.code ({ cls := "java/lang/StringBuilder", name := "<init>", desc := "()V" } : Jvm.MethodName) jdk_67_method_1_code (1 : Nat) (Option.none : Option Jvm.ClassFile.FieldType)).before args0 about1 = true := code_word (m := ⟨11, 0⟩) (meth := k11m0) (c := k11c0) (by decide +kernel) rfl rfl rfl (by decide +kernel)
set_option maxRecDepth 65536 in
theorem w_c6 : (Jvm.Cond.code ({ cls := "java/lang/AbstractStringBuilder", name := "<init>", desc := "(I)V" } : Jvm.MethodName) jdk_68_method_2_code (2 : Nat) (Option.none : Option Jvm.ClassFile.FieldType)).before args0 about1 = true := code_word (m := ⟨10, 1⟩) (meth := k10m1) (c := k10c1) (by decide +kernel) rfl rfl rfl (by decide +kernel)
set_option maxRecDepth 65536 in
theorem w_c7 : (Jvm.Cond.code ({ cls := "java/lang/StringBuilder", name := "append", desc := "(Ljava/lang/String;)Ljava/lang/StringBuilder;" } : Jvm.MethodName) jdk_67_method_7_code (2 : Nat) (Option.some (Jvm.ClassFile.FieldType.object "java/lang/StringBuilder"))).before args0 about1 = true := code_word (m := ⟨11, 1⟩) (meth := k11m1) (c := k11c1) (by decide +kernel) rfl rfl rfl (by decide +kernel)
set_option maxRecDepth 65536 in
theorem w_c8 : (Jvm.Cond.code ({ cls := "java/lang/AbstractStringBuilder", name := "append", desc := "(Ljava/lang/String;)Ljava/lang/AbstractStringBuilder;" } : Jvm.MethodName) jdk_68_method_22_code (3 : Nat) (Option.some (Jvm.ClassFile.FieldType.object "java/lang/AbstractStringBuilder"))).before args0 about1 = true := code_word (m := ⟨10, 5⟩) (meth := k10m5) (c := k10c5) (by decide +kernel) rfl rfl rfl (by decide +kernel)
set_option maxRecDepth 65536 in
theorem w_c9 : (Jvm.Cond.code ({ cls := "java/lang/String", name := "length", desc := "()I" } : Jvm.MethodName) jdk_42_method_54_code (1 : Nat) (Option.some Jvm.ClassFile.FieldType.int)).before args0 about1 = true := code_word (m := ⟨8, 2⟩) (meth := k8m2) (c := k8c2) (by decide +kernel) rfl rfl rfl (by decide +kernel)
set_option maxRecDepth 65536 in
theorem w_c10 : (Jvm.Cond.code ({ cls := "java/lang/String", name := "coder", desc := "()B" } : Jvm.MethodName) jdk_42_method_152_code (1 : Nat) (Option.some Jvm.ClassFile.FieldType.byte)).before args0 about1 = true := code_word (m := ⟨8, 5⟩) (meth := k8m5) (c := k8c5) (by decide +kernel) rfl rfl rfl (by decide +kernel)
set_option maxRecDepth 65536 in
theorem w_c11 : (Jvm.Cond.code ({ cls := "java/lang/AbstractStringBuilder", name := "ensureCapacityInternal", desc := "(I)V" } : Jvm.MethodName) jdk_68_method_9_code (3 : Nat) (Option.none : Option Jvm.ClassFile.FieldType)).before args0 about1 = true := code_word (m := ⟨10, 3⟩) (meth := k10m3) (c := k10c3) (by decide +kernel) rfl rfl rfl (by decide +kernel)
set_option maxRecDepth 65536 in
theorem w_c12 : (Jvm.Cond.code ({ cls := "java/lang/AbstractStringBuilder", name := "putStringAt", desc := "(ILjava/lang/String;)V" } : Jvm.MethodName) jdk_68_method_73_code (3 : Nat) (Option.none : Option Jvm.ClassFile.FieldType)).before args0 about1 = true := code_word (m := ⟨10, 9⟩) (meth := k10m9) (c := k10c9) (by decide +kernel) rfl rfl rfl (by decide +kernel)
set_option maxRecDepth 65536 in
theorem w_c13 : (Jvm.Cond.code ({ cls := "java/lang/AbstractStringBuilder", name := "inflateIfNeededFor", desc := "(Ljava/lang/String;)V" } : Jvm.MethodName) jdk_68_method_71_code (2 : Nat) (Option.none : Option Jvm.ClassFile.FieldType)).before args0 about1 = true := code_word (m := ⟨10, 8⟩) (meth := k10m8) (c := k10c8) (by decide +kernel) rfl rfl rfl (by decide +kernel)
set_option maxRecDepth 65536 in
theorem w_c14 : (Jvm.Cond.code ({ cls := "java/lang/String", name := "getBytes", desc := "([BIB)V" } : Jvm.MethodName) jdk_42_method_147_code (4 : Nat) (Option.none : Option Jvm.ClassFile.FieldType)).before args0 about1 = true := code_word (m := ⟨8, 3⟩) (meth := k8m3) (c := k8c3) (by decide +kernel) rfl rfl rfl (by decide +kernel)
set_option maxRecDepth 65536 in
theorem w_c15 : (Jvm.Cond.code ({ cls := "java/lang/AbstractStringBuilder", name := "newCapacity", desc := "(I)I" } : Jvm.MethodName) jdk_68_method_10_code (6 : Nat) (Option.some Jvm.ClassFile.FieldType.int)).before args0 about1 = true := code_word (m := ⟨10, 4⟩) (meth := k10m4) (c := k10c4) (by decide +kernel) rfl rfl rfl (by decide +kernel)
set_option maxRecDepth 65536 in
theorem w_c16 : (Jvm.Cond.code ({ cls := "jdk/internal/util/ArraysSupport", name := "newLength", desc := "(III)I" } : Jvm.MethodName) jdk_48_method_27_code (4 : Nat) (Option.some Jvm.ClassFile.FieldType.int)).before args0 about1 = true := code_word (m := ⟨13, 1⟩) (meth := k13m1) (c := k13c1) (by decide +kernel) rfl rfl rfl (by decide +kernel)
set_option maxRecDepth 65536 in
theorem w_c17 : (Jvm.Cond.code ({ cls := "java/lang/Math", name := "max", desc := "(II)I" } : Jvm.MethodName) jdk_29_method_65_code (2 : Nat) (Option.some Jvm.ClassFile.FieldType.int)).before args0 about1 = true := code_word (m := ⟨14, 1⟩) (meth := k14m1) (c := k14c1) (by decide +kernel) rfl rfl rfl (by decide +kernel)
set_option maxRecDepth 65536 in
theorem w_c18 : (Jvm.Cond.code ({ cls := "java/util/Arrays", name := "copyOf", desc := "([BI)[B" } : Jvm.MethodName) jdk_65_method_121_code (3 : Nat) (Option.some (Jvm.ClassFile.FieldType.array Jvm.ClassFile.FieldType.byte))).before args0 about1 = true := code_word (m := ⟨15, 2⟩) (meth := k15m2) (c := k15c2) (by decide +kernel) rfl rfl rfl (by decide +kernel)
set_option maxRecDepth 65536 in
theorem w_c19 : (Jvm.Cond.code ({ cls := "java/lang/Math", name := "min", desc := "(II)I" } : Jvm.MethodName) jdk_29_method_69_code (2 : Nat) (Option.some Jvm.ClassFile.FieldType.int)).before args0 about1 = true := code_word (m := ⟨14, 2⟩) (meth := k14m2) (c := k14c2) (by decide +kernel) rfl rfl rfl (by decide +kernel)
set_option maxRecDepth 65536 in
theorem w_c20 : (Jvm.Cond.code ({ cls := "java/lang/StringBuilder", name := "toString", desc := "()Ljava/lang/String;" } : Jvm.MethodName) jdk_67_method_42_code (1 : Nat) (Option.some (Jvm.ClassFile.FieldType.object "java/lang/String"))).before args0 about1 = true := code_word (m := ⟨11, 2⟩) (meth := k11m2) (c := k11c2) (by decide +kernel) rfl rfl rfl (by decide +kernel)
set_option maxRecDepth 65536 in
theorem w_c21 : (Jvm.Cond.code ({ cls := "java/lang/String", name := "<init>", desc := "(Ljava/lang/StringBuilder;)V" } : Jvm.MethodName) jdk_42_method_53_code (2 : Nat) (Option.none : Option Jvm.ClassFile.FieldType)).before args0 about1 = true := code_word (m := ⟨8, 1⟩) (meth := k8m1) (c := k8c1) (by decide +kernel) rfl rfl rfl (by decide +kernel)
set_option maxRecDepth 65536 in
theorem w_c22 : (Jvm.Cond.code ({ cls := "java/lang/String", name := "<init>", desc := "(Ljava/lang/AbstractStringBuilder;Ljava/lang/Void;)V" } : Jvm.MethodName) jdk_42_method_150_code (5 : Nat) (Option.none : Option Jvm.ClassFile.FieldType)).before args0 about1 = true := code_word (m := ⟨8, 4⟩) (meth := k8m4) (c := k8c4) (by decide +kernel) rfl rfl rfl (by decide +kernel)
set_option maxRecDepth 65536 in
theorem w_c23 : (Jvm.Cond.code ({ cls := "java/lang/AbstractStringBuilder", name := "getValue", desc := "()[B" } : Jvm.MethodName) jdk_68_method_64_code (1 : Nat) (Option.some (Jvm.ClassFile.FieldType.array Jvm.ClassFile.FieldType.byte))).before args0 about1 = true := code_word (m := ⟨10, 6⟩) (meth := k10m6) (c := k10c6) (by decide +kernel) rfl rfl rfl (by decide +kernel)
set_option maxRecDepth 65536 in
theorem w_c24 : (Jvm.Cond.code ({ cls := "java/lang/StringBuilder", name := "length", desc := "()I" } : Jvm.MethodName) jdk_67_method_93_code (1 : Nat) (Option.some Jvm.ClassFile.FieldType.int)).before args0 about1 = true := code_word (m := ⟨11, 3⟩) (meth := k11m3) (c := k11c3) (by decide +kernel) rfl rfl rfl (by decide +kernel)
set_option maxRecDepth 65536 in
theorem w_c25 : (Jvm.Cond.code ({ cls := "java/lang/AbstractStringBuilder", name := "length", desc := "()I" } : Jvm.MethodName) jdk_68_method_6_code (1 : Nat) (Option.some Jvm.ClassFile.FieldType.int)).before args0 about1 = true := code_word (m := ⟨10, 2⟩) (meth := k10m2) (c := k10c2) (by decide +kernel) rfl rfl rfl (by decide +kernel)
set_option maxRecDepth 65536 in
theorem w_c26 : (Jvm.Cond.code ({ cls := "java/lang/AbstractStringBuilder", name := "isLatin1", desc := "()Z" } : Jvm.MethodName) jdk_68_method_68_code (1 : Nat) (Option.some Jvm.ClassFile.FieldType.boolean)).before args0 about1 = true := code_word (m := ⟨10, 7⟩) (meth := k10m7) (c := k10c7) (by decide +kernel) rfl rfl rfl (by decide +kernel)
set_option maxRecDepth 65536 in
theorem w_c27 : (Jvm.Cond.code ({ cls := "java/util/Arrays", name := "copyOfRange", desc := "([BII)[B" } : Jvm.MethodName) jdk_65_method_132_code (3 : Nat) (Option.some (Jvm.ClassFile.FieldType.array Jvm.ClassFile.FieldType.byte))).before args0 about1 = true := code_word (m := ⟨15, 5⟩) (meth := k15m5) (c := k15c5) (by decide +kernel) rfl rfl rfl (by decide +kernel)
set_option maxRecDepth 65536 in
theorem w_c28 : (Jvm.Cond.code ({ cls := "java/util/Arrays", name := "copyOfRangeByte", desc := "([BII)[B" } : Jvm.MethodName) jdk_65_method_133_code (5 : Nat) (Option.some (Jvm.ClassFile.FieldType.array Jvm.ClassFile.FieldType.byte))).before args0 about1 = true := code_word (m := ⟨15, 6⟩) (meth := k15m6) (c := k15c6) (by decide +kernel) rfl rfl rfl (by decide +kernel)
set_option maxRecDepth 65536 in
theorem w_c29 : (Jvm.Cond.code ({ cls := "java/util/Arrays", name := "checkLength", desc := "(II)V" } : Jvm.MethodName) jdk_65_method_131_code (2 : Nat) (Option.none : Option Jvm.ClassFile.FieldType)).before args0 about1 = true := code_word (m := ⟨15, 4⟩) (meth := k15m4) (c := k15c4) (by decide +kernel) rfl rfl rfl (by decide +kernel)
set_option maxRecDepth 65536 in
theorem w_c30 : (Jvm.Cond.code ({ cls := "java/util/Objects", name := "requireNonNull", desc := "(Ljava/lang/Object;Ljava/lang/String;)Ljava/lang/Object;" } : Jvm.MethodName) jdk_31_method_11_code (2 : Nat) (Option.some (Jvm.ClassFile.FieldType.object "java/lang/Object"))).before args0 about1 = true := code_word (m := ⟨16, 1⟩) (meth := k16m1) (c := k16c1) (by decide +kernel) rfl rfl rfl (by decide +kernel)
set_option maxRecDepth 65536 in
theorem w_c31 : (Jvm.Cond.code ({ cls := "java/util/Arrays", name := "sort", desc := "([I)V" } : Jvm.MethodName) jdk_65_method_2_code (1 : Nat) (Option.none : Option Jvm.ClassFile.FieldType)).before args0 about1 = true := code_word (m := ⟨15, 1⟩) (meth := k15m1) (c := k15c1) (by decide +kernel) rfl rfl rfl (by decide +kernel)
set_option maxRecDepth 65536 in
theorem w_c32 : (Jvm.Cond.code ({ cls := "java/util/DualPivotQuicksort", name := "sort", desc := "([IIII)V" } : Jvm.MethodName) jdk_2529_method_3_code (7 : Nat) (Option.none : Option Jvm.ClassFile.FieldType)).before args0 about1 = true := code_word (m := ⟨18, 1⟩) (meth := k18m1) (c := k18c1) (by decide +kernel) rfl rfl rfl (by decide +kernel)
set_option maxRecDepth 65536 in
theorem w_c33 : (Jvm.Cond.code ({ cls := "java/util/DualPivotQuicksort", name := "sort", desc := "(Ljava/util/DualPivotQuicksort$Sorter;[IIII)V" } : Jvm.MethodName) jdk_2529_method_4_code (21 : Nat) (Option.none : Option Jvm.ClassFile.FieldType)).before args0 about1 = true := code_word (m := ⟨18, 2⟩) (meth := k18m2) (c := k18c2) (by decide +kernel) rfl rfl rfl (by decide +kernel)
set_option maxRecDepth 65536 in
theorem w_c34 : (Jvm.Cond.code ({ cls := "java/util/DualPivotQuicksort", name := "insertionSort", desc := "([III)V" } : Jvm.MethodName) jdk_2529_method_6_code (6 : Nat) (Option.none : Option Jvm.ClassFile.FieldType)).before args0 about1 = true := code_word (m := ⟨18, 3⟩) (meth := k18m3) (c := k18c3) (by decide +kernel) rfl rfl rfl (by decide +kernel)
set_option maxRecDepth 65536 in
theorem w_c35 : (Jvm.Cond.code ({ cls := "com/example/interleaving_explorer/interleavingexplorer/engine/Access", name := "concatenate", desc := "([I[I)[I" } : Jvm.MethodName) prog_6_method_13_code (3 : Nat) (Option.some (Jvm.ClassFile.FieldType.array Jvm.ClassFile.FieldType.int))).before args0 about1 = true := code_word (m := ⟨2, 2⟩) (meth := k2m2) (c := k2c2) (by decide +kernel) rfl rfl rfl (by decide +kernel)
set_option maxRecDepth 65536 in
theorem w_c36 : (Jvm.Cond.code ({ cls := "java/util/Arrays", name := "copyOf", desc := "([II)[I" } : Jvm.MethodName) jdk_65_method_123_code (3 : Nat) (Option.some (Jvm.ClassFile.FieldType.array Jvm.ClassFile.FieldType.int))).before args0 about1 = true := code_word (m := ⟨15, 3⟩) (meth := k15m3) (c := k15c3) (by decide +kernel) rfl rfl rfl (by decide +kernel)
set_option maxRecDepth 65536 in
theorem w_c37 : (Jvm.Cond.code ({ cls := "com/example/interleaving_explorer/interleavingexplorer/engine/Access", name := "touchesNothing", desc := "()Z" } : Jvm.MethodName) prog_6_method_8_code (1 : Nat) (Option.some Jvm.ClassFile.FieldType.boolean)).before args0 about1 = true := code_word (m := ⟨2, 1⟩) (meth := k2m1) (c := k2c1) (by decide +kernel) rfl rfl rfl (by decide +kernel)
def codes1 : List Jvm.Cond := [Jvm.Cond.code x code maxLocals ret, Jvm.Cond.code ({ cls := "com/example/interleaving_explorer/interleavingexplorer/engine/AccessTouchesNothingPinLaw", name := "arr", desc := "(III)[I" } : Jvm.MethodName) method_2_code (3 : Nat) (Option.some (Jvm.ClassFile.FieldType.array Jvm.ClassFile.FieldType.int)), Jvm.Cond.code ({ cls := "com/example/interleaving_explorer/interleavingexplorer/engine/Access", name := "<init>", desc := "([I[I[I[I)V" } : Jvm.MethodName) prog_6_method_1_code (5 : Nat) (Option.none : Option Jvm.ClassFile.FieldType), Jvm.Cond.code ({ cls := "java/lang/Object", name := "<init>", desc := "()V" } : Jvm.MethodName) object_method_1_code (1 : Nat) (Option.none : Option Jvm.ClassFile.FieldType), Jvm.Cond.code ({ cls := "com/example/interleaving_explorer/interleavingexplorer/engine/Access", name := "distinct", desc := "([ILjava/lang/String;)[I" } : Jvm.MethodName) prog_6_method_14_code (8 : Nat) (Option.some (Jvm.ClassFile.FieldType.array Jvm.ClassFile.FieldType.int)), Jvm.Cond.code ({ cls := "java/lang/StringBuilder", name := "<init>", desc := "()V" } : Jvm.MethodName) jdk_67_method_1_code (1 : Nat) (Option.none : Option Jvm.ClassFile.FieldType), Jvm.Cond.code ({ cls := "java/lang/AbstractStringBuilder", name := "<init>", desc := "(I)V" } : Jvm.MethodName) jdk_68_method_2_code (2 : Nat) (Option.none : Option Jvm.ClassFile.FieldType), Jvm.Cond.code ({ cls := "java/lang/StringBuilder", name := "append", desc := "(Ljava/lang/String;)Ljava/lang/StringBuilder;" } : Jvm.MethodName) jdk_67_method_7_code (2 : Nat) (Option.some (Jvm.ClassFile.FieldType.object "java/lang/StringBuilder")), Jvm.Cond.code ({ cls := "java/lang/AbstractStringBuilder", name := "append", desc := "(Ljava/lang/String;)Ljava/lang/AbstractStringBuilder;" } : Jvm.MethodName) jdk_68_method_22_code (3 : Nat) (Option.some (Jvm.ClassFile.FieldType.object "java/lang/AbstractStringBuilder")), Jvm.Cond.code ({ cls := "java/lang/String", name := "length", desc := "()I" } : Jvm.MethodName) jdk_42_method_54_code (1 : Nat) (Option.some Jvm.ClassFile.FieldType.int), Jvm.Cond.code ({ cls := "java/lang/String", name := "coder", desc := "()B" } : Jvm.MethodName) jdk_42_method_152_code (1 : Nat) (Option.some Jvm.ClassFile.FieldType.byte), Jvm.Cond.code ({ cls := "java/lang/AbstractStringBuilder", name := "ensureCapacityInternal", desc := "(I)V" } : Jvm.MethodName) jdk_68_method_9_code (3 : Nat) (Option.none : Option Jvm.ClassFile.FieldType), Jvm.Cond.code ({ cls := "java/lang/AbstractStringBuilder", name := "putStringAt", desc := "(ILjava/lang/String;)V" } : Jvm.MethodName) jdk_68_method_73_code (3 : Nat) (Option.none : Option Jvm.ClassFile.FieldType), Jvm.Cond.code ({ cls := "java/lang/AbstractStringBuilder", name := "inflateIfNeededFor", desc := "(Ljava/lang/String;)V" } : Jvm.MethodName) jdk_68_method_71_code (2 : Nat) (Option.none : Option Jvm.ClassFile.FieldType), Jvm.Cond.code ({ cls := "java/lang/String", name := "getBytes", desc := "([BIB)V" } : Jvm.MethodName) jdk_42_method_147_code (4 : Nat) (Option.none : Option Jvm.ClassFile.FieldType), Jvm.Cond.code ({ cls := "java/lang/AbstractStringBuilder", name := "newCapacity", desc := "(I)I" } : Jvm.MethodName) jdk_68_method_10_code (6 : Nat) (Option.some Jvm.ClassFile.FieldType.int), Jvm.Cond.code ({ cls := "jdk/internal/util/ArraysSupport", name := "newLength", desc := "(III)I" } : Jvm.MethodName) jdk_48_method_27_code (4 : Nat) (Option.some Jvm.ClassFile.FieldType.int), Jvm.Cond.code ({ cls := "java/lang/Math", name := "max", desc := "(II)I" } : Jvm.MethodName) jdk_29_method_65_code (2 : Nat) (Option.some Jvm.ClassFile.FieldType.int), Jvm.Cond.code ({ cls := "java/util/Arrays", name := "copyOf", desc := "([BI)[B" } : Jvm.MethodName) jdk_65_method_121_code (3 : Nat) (Option.some (Jvm.ClassFile.FieldType.array Jvm.ClassFile.FieldType.byte)), Jvm.Cond.code ({ cls := "java/lang/Math", name := "min", desc := "(II)I" } : Jvm.MethodName) jdk_29_method_69_code (2 : Nat) (Option.some Jvm.ClassFile.FieldType.int), Jvm.Cond.code ({ cls := "java/lang/StringBuilder", name := "toString", desc := "()Ljava/lang/String;" } : Jvm.MethodName) jdk_67_method_42_code (1 : Nat) (Option.some (Jvm.ClassFile.FieldType.object "java/lang/String")), Jvm.Cond.code ({ cls := "java/lang/String", name := "<init>", desc := "(Ljava/lang/StringBuilder;)V" } : Jvm.MethodName) jdk_42_method_53_code (2 : Nat) (Option.none : Option Jvm.ClassFile.FieldType), Jvm.Cond.code ({ cls := "java/lang/String", name := "<init>", desc := "(Ljava/lang/AbstractStringBuilder;Ljava/lang/Void;)V" } : Jvm.MethodName) jdk_42_method_150_code (5 : Nat) (Option.none : Option Jvm.ClassFile.FieldType), Jvm.Cond.code ({ cls := "java/lang/AbstractStringBuilder", name := "getValue", desc := "()[B" } : Jvm.MethodName) jdk_68_method_64_code (1 : Nat) (Option.some (Jvm.ClassFile.FieldType.array Jvm.ClassFile.FieldType.byte)), Jvm.Cond.code ({ cls := "java/lang/StringBuilder", name := "length", desc := "()I" } : Jvm.MethodName) jdk_67_method_93_code (1 : Nat) (Option.some Jvm.ClassFile.FieldType.int), Jvm.Cond.code ({ cls := "java/lang/AbstractStringBuilder", name := "length", desc := "()I" } : Jvm.MethodName) jdk_68_method_6_code (1 : Nat) (Option.some Jvm.ClassFile.FieldType.int), Jvm.Cond.code ({ cls := "java/lang/AbstractStringBuilder", name := "isLatin1", desc := "()Z" } : Jvm.MethodName) jdk_68_method_68_code (1 : Nat) (Option.some Jvm.ClassFile.FieldType.boolean), Jvm.Cond.code ({ cls := "java/util/Arrays", name := "copyOfRange", desc := "([BII)[B" } : Jvm.MethodName) jdk_65_method_132_code (3 : Nat) (Option.some (Jvm.ClassFile.FieldType.array Jvm.ClassFile.FieldType.byte)), Jvm.Cond.code ({ cls := "java/util/Arrays", name := "copyOfRangeByte", desc := "([BII)[B" } : Jvm.MethodName) jdk_65_method_133_code (5 : Nat) (Option.some (Jvm.ClassFile.FieldType.array Jvm.ClassFile.FieldType.byte)), Jvm.Cond.code ({ cls := "java/util/Arrays", name := "checkLength", desc := "(II)V" } : Jvm.MethodName) jdk_65_method_131_code (2 : Nat) (Option.none : Option Jvm.ClassFile.FieldType), Jvm.Cond.code ({ cls := "java/util/Objects", name := "requireNonNull", desc := "(Ljava/lang/Object;Ljava/lang/String;)Ljava/lang/Object;" } : Jvm.MethodName) jdk_31_method_11_code (2 : Nat) (Option.some (Jvm.ClassFile.FieldType.object "java/lang/Object")), Jvm.Cond.code ({ cls := "java/util/Arrays", name := "sort", desc := "([I)V" } : Jvm.MethodName) jdk_65_method_2_code (1 : Nat) (Option.none : Option Jvm.ClassFile.FieldType), Jvm.Cond.code ({ cls := "java/util/DualPivotQuicksort", name := "sort", desc := "([IIII)V" } : Jvm.MethodName) jdk_2529_method_3_code (7 : Nat) (Option.none : Option Jvm.ClassFile.FieldType), Jvm.Cond.code ({ cls := "java/util/DualPivotQuicksort", name := "sort", desc := "(Ljava/util/DualPivotQuicksort$Sorter;[IIII)V" } : Jvm.MethodName) jdk_2529_method_4_code (21 : Nat) (Option.none : Option Jvm.ClassFile.FieldType), Jvm.Cond.code ({ cls := "java/util/DualPivotQuicksort", name := "insertionSort", desc := "([III)V" } : Jvm.MethodName) jdk_2529_method_6_code (6 : Nat) (Option.none : Option Jvm.ClassFile.FieldType), Jvm.Cond.code ({ cls := "com/example/interleaving_explorer/interleavingexplorer/engine/Access", name := "concatenate", desc := "([I[I)[I" } : Jvm.MethodName) prog_6_method_13_code (3 : Nat) (Option.some (Jvm.ClassFile.FieldType.array Jvm.ClassFile.FieldType.int)), Jvm.Cond.code ({ cls := "java/util/Arrays", name := "copyOf", desc := "([II)[I" } : Jvm.MethodName) jdk_65_method_123_code (3 : Nat) (Option.some (Jvm.ClassFile.FieldType.array Jvm.ClassFile.FieldType.int)), Jvm.Cond.code ({ cls := "com/example/interleaving_explorer/interleavingexplorer/engine/Access", name := "touchesNothing", desc := "()Z" } : Jvm.MethodName) prog_6_method_8_code (1 : Nat) (Option.some Jvm.ClassFile.FieldType.boolean)]
set_option maxRecDepth 65536 in
theorem codes_eq : words1.filter isCode = codes1 := rfl
theorem w_codes : ∀ c ∈ words1.filter isCode, c.before args0 about1 = true := by
  rw [codes_eq]
  intro c hc
  simp only [codes1, List.mem_cons, List.not_mem_nil, or_false] at hc
  rcases hc with rfl | rfl | rfl | rfl | rfl | rfl | rfl | rfl | rfl | rfl | rfl | rfl | rfl | rfl | rfl | rfl | rfl | rfl | rfl | rfl | rfl | rfl | rfl | rfl | rfl | rfl | rfl | rfl | rfl | rfl | rfl | rfl | rfl | rfl | rfl | rfl | rfl | rfl
  · exact w_c0
  · exact w_c1
  · exact w_c2
  · exact w_c3
  · exact w_c4
  · exact w_c5
  · exact w_c6
  · exact w_c7
  · exact w_c8
  · exact w_c9
  · exact w_c10
  · exact w_c11
  · exact w_c12
  · exact w_c13
  · exact w_c14
  · exact w_c15
  · exact w_c16
  · exact w_c17
  · exact w_c18
  · exact w_c19
  · exact w_c20
  · exact w_c21
  · exact w_c22
  · exact w_c23
  · exact w_c24
  · exact w_c25
  · exact w_c26
  · exact w_c27
  · exact w_c28
  · exact w_c29
  · exact w_c30
  · exact w_c31
  · exact w_c32
  · exact w_c33
  · exact w_c34
  · exact w_c35
  · exact w_c36
  · exact w_c37
set_option maxRecDepth 65536 in
theorem w_t1 : (words1.take 24).all (fun c => isCode c || c.before args0 about1) = true := by decide +kernel
set_option maxRecDepth 65536 in
theorem w_t2 : ((words1.drop 24).take 24).all (fun c => isCode c || c.before args0 about1) = true := by decide +kernel
set_option maxRecDepth 65536 in
theorem w_t3 : (((words1.drop 24).drop 24).take 24).all (fun c => isCode c || c.before args0 about1) = true := by decide +kernel
set_option maxRecDepth 65536 in
theorem w_t4 : ((((words1.drop 24).drop 24).drop 24).take 24).all (fun c => isCode c || c.before args0 about1) = true := by decide +kernel
set_option maxRecDepth 65536 in
theorem w_t5 : (((((words1.drop 24).drop 24).drop 24).drop 24).take 24).all (fun c => isCode c || c.before args0 about1) = true := by decide +kernel
set_option maxRecDepth 65536 in
theorem w_t6 : ((((((words1.drop 24).drop 24).drop 24).drop 24).drop 24).take 24).all (fun c => isCode c || c.before args0 about1) = true := by decide +kernel
set_option maxRecDepth 65536 in
theorem w_t7 : (((((((words1.drop 24).drop 24).drop 24).drop 24).drop 24).drop 24).take 24).all (fun c => isCode c || c.before args0 about1) = true := by decide +kernel
set_option maxRecDepth 65536 in
theorem w_t8 : ((((((((words1.drop 24).drop 24).drop 24).drop 24).drop 24).drop 24).drop 24).take 24).all (fun c => isCode c || c.before args0 about1) = true := by decide +kernel
set_option maxRecDepth 65536 in
theorem w_t9 : ((((((((words1.drop 24).drop 24).drop 24).drop 24).drop 24).drop 24).drop 24).drop 24).all (fun c => isCode c || c.before args0 about1) = true := by decide +kernel
theorem w_tables : (allAtoms (Jvm.Cond.code x code maxLocals ret :: tables_1)).before args0 about1 = true := by
  rw [allAtoms_all]
  show words1.all (fun c => c.before args0 about1) = true
  refine all_split ?_ w_codes
  rw [← List.take_append_drop 24 words1, List.all_append, w_t1, ← List.take_append_drop 24 (words1.drop 24), List.all_append, w_t2, ← List.take_append_drop 24 ((words1.drop 24).drop 24), List.all_append, w_t3, ← List.take_append_drop 24 (((words1.drop 24).drop 24).drop 24), List.all_append, w_t4, ← List.take_append_drop 24 ((((words1.drop 24).drop 24).drop 24).drop 24), List.all_append, w_t5, ← List.take_append_drop 24 (((((words1.drop 24).drop 24).drop 24).drop 24).drop 24), List.all_append, w_t6, ← List.take_append_drop 24 ((((((words1.drop 24).drop 24).drop 24).drop 24).drop 24).drop 24), List.all_append, w_t7, ← List.take_append_drop 24 (((((((words1.drop 24).drop 24).drop 24).drop 24).drop 24).drop 24).drop 24), List.all_append, w_t8, w_t9]
  rfl
set_option maxRecDepth 65536 in
theorem w_rest : rest_1_c.before args0 about1 = true := by decide +kernel
set_option maxRecDepth 65536 in
theorem w_case : (Jvm.Cond.and given_1 narrow_1).before args0 about1 = true := by decide +kernel
set_option maxRecDepth 65536 in
theorem w_consts : constsHeld consts_1 about1 := Jvm.Lit.constsHeldB_iff.mp (by decide +kernel)
theorem w_applies : (headSpec (Jvm.Cond.code x code maxLocals ret :: tables_1) room_1).applies x e0.platform about1 = true :=
  (Spec.applies_iff w_frames).mpr ⟨w_running, w_runnable, w_alone, w_named, w_hears, w_ripe, w_room, w_tables⟩
theorem atStart : AtStart classFile x code maxLocals ret World_1 tables_1 room_1 Calls_1 rest_1 Pre_1 launch0 p0 e0 about1 theMethod args0 below0 :=
  ⟨lists_1, trivial, launch0.admits_env _ _ _, launch0.least_env, fairChoices_fair.cas, fairChoices_fair.clock, w_frames, w_args, w_heap, w_applies, ⟨w_consts, trivial⟩, w_rest, w_case⟩
end start1
theorem witness_1 : WitnessClaimed_1 := ⟨start1.p0, start1.e0, start1.about1, start1.theMethod, start1.args0, start1.below0, start1.atStart⟩
end Jvm.Pilot.@@N@@
