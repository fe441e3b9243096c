import JvmDerived
import JvmDerived.Pilot.@@N@@Statement
import JvmDerived.Pilot.@@N@@Code
set_option linter.unusedVariables false
set_option linter.unusedSimpArgs false
namespace Jvm.RoadKit
open Sem ClassFile Op Lib Jvm.Stand Jvm.Free Jvm.LawKit
section New
variable {p : Program} {l : Launch} {e : Env} {R : Room} {s : State} {m : MethodId} {args : Array Value} {below : List Frame} {meth : Method} {c : Code} {T : State} {locs : List Loc} {cells slots : Nat}
theorem retI (X : Stand p l e R s m args below meth c T locs cells slots) (hx : p.tables.exec = Jvm.exec) {pc : Nat} {Ls : Array Slot} {z : Int32} {rest : List Value} (hret : meth.sig.returnType = some .int) (hd : decode c.code pc = .ok (.ireturn, 1)) {fs : List Frame}
    (hl : ∀ (f : JFrame) (acts : List Action), f.method = m → f.locked = none → f.entered = [] → (doReturn e (T.setTop f) acts (some (.int z))).1 = T.setFrames fs) : Steps p.tables e below (T.setTop (mkF m pc Ls (.int z :: rest))) (T.setFrames fs) := by
  have hm' : T.vm.method? m = some meth := X.method'
  have hn : narrow .int (.int z) = .int z := rfl
  show Steps p.tables e below (T.setTop { method := m, pc := pc, locals := Ls, stack := _ :: rest, locked := none }) _
  jvm_step X.here [X.here.top, hx, hd, hm', hret, hn]
  first | (intro acts; rw [hl _ acts rfl rfl rfl]) | rw [hl _ _ rfl rfl rfl]
  exact Steps.refl _
end New
end Jvm.RoadKit
namespace Jvm.Pilot.@@N@@
open Jvm Jvm.ClassFile Sem Op Lib Jvm.Free Jvm.Stand Jvm.LawKit Jvm.RoadKit Bundle Jvm.Pilot.@@N@@.Jvm.D
/-! the goals of a walk, and what closes them -/
def OEnd (p : Program) (e : Env) (below : List Frame) (s T : State) (g : JFrame) (Q : Option Value → Heap → List Loc → Prop) (kc ks : Nat) : Prop :=
  ∃ s₂ o, Steps p.tables e below (T.setTop g) s₂ ∧ s₂.status = .running ∧ Ended s₂ below o ∧ ∃ v L, o = .returned v ∧ Q v s₂.heap L ∧ FrameEnd s o s₂ L kc ks
def ORch (p : Program) (l : Launch) (e : Env) (R : Room) (s : State) (m : MethodId) (args : Array Value) (below : List Frame) (meth : Method) (c : Code) (n0 : Nat) (T : State) (g : JFrame) (h : Heap) (g' : JFrame) (cells slots : Nat) : Prop :=
  ∃ T' locs', Stand p l e R s m args below meth c T' locs' cells slots ∧ T'.heap = h ∧ Fr n0 locs' ∧ Goes p e below T g T' g'
def OArr (Z : State) (h : Heap) (a : Addr) (ty : FieldType) (n : Int32) (vs : List Value) (d : Value) : Prop := ∃ k, Arv Z h a k ty n vs d
def ORchH (p : Program) (l : Launch) (e : Env) (R : Room) (s : State) (m : MethodId) (args : Array Value) (below : List Frame) (meth : Method) (c : Code) (n0 : Nat) (T : State) (g : JFrame) (g' : JFrame) (cells slots : Nat) (P : Heap → Prop) : Prop :=
  ∃ T' h' locs', Stand p l e R s m args below meth c T' locs' cells slots ∧ T'.heap = h' ∧ Fr n0 locs' ∧ P h' ∧ Goes p e below T g T' g'
def ORchB (p : Program) (l : Launch) (e : Env) (R : Room) (s : State) (m : MethodId) (args : Array Value) (below : List Frame) (meth : Method) (c : Code) (n0 : Nat) (T : State) (g : JFrame) (g' : Addr → JFrame) (cells slots : Nat) (P : Heap → Addr → Prop) : Prop :=
  ∃ b T' h' locs', Stand p l e R s m args below meth c T' locs' cells slots ∧ T'.heap = h' ∧ Fr n0 locs' ∧ P h' b ∧ Goes p e below T g T' (g' b)
section Own
variable {p : Program} {l : Launch} {e : Env} {R : Room} {s : State} {m : MethodId} {args : Array Value} {below : List Frame} {meth : Method} {c : Code} {T T' : State} {locs : List Loc} {cells slots : Nat} {g g' g'' : JFrame} {Q : Option Value → Heap → List Loc → Prop} {kc ks : Nat}
theorem OEnd.go (k : Goes p e below T g T' g') (h : OEnd p e below s T' g' Q kc ks) : OEnd p e below s T g Q kc ks := by
  obtain ⟨s₂, o, h1, h2⟩ := h
  exact ⟨s₂, o, k _ h1, h2⟩
theorem ORch.go {n0 : Nat} {h : Heap} (k : Goes p e below T g T' g') (q : ORch p l e R s m args below meth c n0 T' g' h g'' cells slots) : ORch p l e R s m args below meth c n0 T g h g'' cells slots := by
  obtain ⟨T2, L2, h1, h2, h3, h4⟩ := q
  exact ⟨T2, L2, h1, h2, h3, fun t kt => k _ (h4 t kt)⟩
theorem ORchH.go {n0 : Nat} {P : Heap → Prop} (k : Goes p e below T g T' g') (q : ORchH p l e R s m args below meth c n0 T' g' g'' cells slots P) : ORchH p l e R s m args below meth c n0 T g g'' cells slots P := by
  obtain ⟨T2, h2, L2, h1, h2, h3, h4, h5⟩ := q
  exact ⟨T2, _, L2, h1, h2, h3, h4, fun t kt => k _ (h5 t kt)⟩
theorem ORchB.go {n0 : Nat} {P : Heap → Addr → Prop} {gb : Addr → JFrame} (k : Goes p e below T g T' g') (q : ORchB p l e R s m args below meth c n0 T' g' gb cells slots P) : ORchB p l e R s m args below meth c n0 T g gb cells slots P := by
  obtain ⟨b, T2, h2, L2, h1, h2, h3, h4, h5⟩ := q
  exact ⟨b, T2, _, L2, h1, h2, h3, h4, fun t kt => k _ (h5 t kt)⟩
theorem SGo.go {t : State} (k : Goes p e below T g T' g') (h : Steps p.tables e below (T'.setTop g') t) : Steps p.tables e below (T.setTop g) t := k _ h
theorem own_k {A : Type} {tb : Tables} {f : A → JFrame} {a b : A} {t : State} (q : a = b) (k : Steps tb e below (T.setTop (f a)) t) : Steps tb e below (T.setTop (f b)) t := q ▸ k
theorem own_symm {A : Type} {a b : A} (h : a = b) : b = a := h.symm
theorem own_via {A : Type} {a b c : A} (h : a = b) (k : a = c) : b = c := h.symm.trans k
theorem own_p {A : Type} {P : A → Prop} {a b : A} (q : a = b) (w : P a) : P b := q ▸ w
theorem own_at {h : Heap} {U : Heap} (q : U = h) {P : Heap → Prop} (w : P h) : P U := q ▸ w
theorem OArr.lt {Z : State} {h : Heap} {a : Addr} {ty : FieldType} {n : Int32} {vs : List Value} {d : Value} (F : OArr Z h a ty n vs d) : a < h.size := by obtain ⟨k, V⟩ := F; exact V.lt
theorem OArr.ext {Z : State} {h h' : Heap} {a : Addr} {ty : FieldType} {n : Int32} {vs : List Value} {d : Value} (F : OArr Z h a ty n vs d) (E : Ext h h') : OArr Z h' a ty n vs d := by obtain ⟨k, V⟩ := F; exact ⟨k, V.ext E⟩
theorem OArr.other {Z : State} {h h' : Heap} {a b : Addr} {ty : FieldType} {n : Int32} {vs : List Value} {d v : Value} {sl : Nat} (F : OArr Z h b ty n vs d) (W : Wr h h' a sl v) (q : b ≠ a) : OArr Z h' b ty n vs d := by obtain ⟨k, V⟩ := F; exact ⟨k, V.other W q⟩
theorem OArr.keep {Z : State} {h h' : Heap} {a : Addr} {ty : FieldType} {n : Int32} {vs : List Value} {d : Value} {ws : List Addr} (F : OArr Z h a ty n vs d) (K : Keep h h' ws) (q : a ∉ ws) : OArr Z h' a ty n vs d := by obtain ⟨k, V⟩ := F; exact ⟨k, V.keep K q⟩
theorem OEnd.int (X : Stand p l e R s m args below meth c T locs cells slots) (hx : p.tables.exec = Jvm.exec) {pc : Nat} {Ls : Array Slot} {z : Int32} {rest : List Value} (hret : meth.sig.returnType = some .int) (hlk : meth.locks = false) (hd : decode c.code pc = .ok (.ireturn, 1)) (hq : Q (some (.int z)) T.heap locs) (hc : cells ≤ kc) (hs : slots ≤ ks) :
    OEnd p e below s T (mkF m pc Ls (.int z :: rest)) Q kc ks := by
  obtain ⟨fs, hr, hrun, hended, hW, hsame⟩ := X.leave (v := some (.int z)) (fun h => by rw [hret] at h; cases h) hlk
  exact ⟨_, _, retI X hx hret hd hr, hrun, hended, _, _, rfl, hq, ⟨_, rfl⟩, hW, hsame.mono hc hs⟩
theorem OEnd.nar (X : Stand p l e R s m args below meth c T locs cells slots) (hx : p.tables.exec = Jvm.exec) {pc : Nat} {Ls : Array Slot} {z : Int32} {rest : List Value} {t : FieldType} (hret : meth.sig.returnType = some t) (ht : t = .boolean ∨ t = .byte ∨ t = .char ∨ t = .short) (hlk : meth.locks = false) (hd : decode c.code pc = .ok (.ireturn, 1)) (hq : Q (some (.int (nar t z))) T.heap locs) (hc : cells ≤ kc) (hs : slots ≤ ks) :
    OEnd p e below s T (mkF m pc Ls (.int z :: rest)) Q kc ks := by
  obtain ⟨fs, hr, hrun, hended, hW, hsame⟩ := X.leave (v := some (.int (RoadKit.nar t z))) (fun h => by rw [hret] at h; cases h) hlk
  exact ⟨_, _, retN X hx hret ht hd hr, hrun, hended, _, _, rfl, hq, ⟨_, rfl⟩, hW, hsame.mono hc hs⟩
theorem OEnd.long (X : Stand p l e R s m args below meth c T locs cells slots) (hx : p.tables.exec = Jvm.exec) {pc : Nat} {Ls : Array Slot} {z : Int64} (hret : meth.sig.returnType = some .long) (hlk : meth.locks = false) (hd : decode c.code pc = .ok (.lreturn, 1)) (hq : Q (some (.long z)) T.heap locs) (hc : cells ≤ kc) (hs : slots ≤ ks) :
    OEnd p e below s T (mkF m pc Ls [.long z]) Q kc ks := by
  obtain ⟨fs, hr, hrun, hended, hW, hsame⟩ := X.leave (v := some (.long z)) (fun h => by rw [hret] at h; cases h) hlk
  exact ⟨_, _, X.lreturnOut hx hret hd hr, hrun, hended, _, _, rfl, hq, ⟨_, rfl⟩, hW, hsame.mono hc hs⟩
theorem OEnd.void (X : Stand p l e R s m args below meth c T locs cells slots) (hx : p.tables.exec = Jvm.exec) {pc : Nat} {Ls : Array Slot} (hret : meth.sig.returnType = none) (hlk : meth.locks = false) (hd : decode c.code pc = .ok (.return_, 1)) (hq : Q none T.heap locs) (hc : cells ≤ kc) (hs : slots ≤ ks) :
    OEnd p e below s T (mkF m pc Ls []) Q kc ks := by
  obtain ⟨fs, hr, hrun, hended, hW, hsame⟩ := X.leave (v := none) (fun _ => rfl) hlk
  exact ⟨_, _, X.returnOut hx hret hd hr, hrun, hended, _, _, rfl, hq, ⟨_, rfl⟩, hW, hsame.mono hc hs⟩
theorem OEnd.ref (X : Stand p l e R s m args below meth c T locs cells slots) (hx : p.tables.exec = Jvm.exec) {pc : Nat} {Ls : Array Slot} {a : Addr} {t : FieldType} (hret : meth.sig.returnType = some t) (ht : t.isReference = true) (hlk : meth.locks = false) (hd : decode c.code pc = .ok (.areturn, 1)) (hq : Q (some (.ref a)) T.heap locs) (hc : cells ≤ kc) (hs : slots ≤ ks) :
    OEnd p e below s T (mkF m pc Ls [.ref a]) Q kc ks := by
  obtain ⟨fs, hr, hrun, hended, hW, hsame⟩ := X.leave (v := some (.ref a)) (fun h => by rw [hret] at h; cases h) hlk
  have hm' : T.vm.method? m = some meth := X.method'
  have st : Steps p.tables e below (T.setTop (mkF m pc Ls [.ref a])) (T.setFrames fs) := by
    show Steps p.tables e below (T.setTop { method := m, pc := pc, locals := Ls, stack := [_], locked := none }) _
    jvm_step X.here [X.here.top, hx, hd, hm', hret, ht, Value.isRef]
    first | (intro acts; rw [hr _ acts rfl rfl rfl]) | rw [hr _ _ rfl rfl rfl]
    exact Steps.refl _
  exact ⟨_, _, st, hrun, hended, _, _, rfl, hq, ⟨_, rfl⟩, hW, hsame.mono hc hs⟩
end Own
theorem d7_0 : decode jdk_30_method_1_code 0 = .ok (.aload_n 0, 1) := by decide +kernel
theorem d7_1 : decode jdk_30_method_1_code 1 = .ok (.invokespecial 1, 3) := by decide +kernel
theorem d7_4 : decode jdk_30_method_1_code 4 = .ok (.return_, 1) := by decide +kernel
theorem pn_java_lang_Record : plainName "java/lang/Record" = true := by first | (simp [plainName, overriddenIn]; done) | decide +kernel
theorem ef_7 (m : MethodId) (x0 : Addr) : entryFrame m #[(.ref x0)] 1 = mkF m 0 #[.val (.ref x0)] [] := by first | (simp [entryFrame, mkF, argsToLocals, Value.category]; done) | rfl
def Q7 (Z : State) (a0 : Addr) (h0 : Heap) (n0 : Nat) (v : Option Value) (h : Heap) (L : List Loc) : Prop := v = none ∧ Fr n0 L ∧ h = h0
set_option maxRecDepth 65536 in
set_option maxHeartbeats 40000000 in
theorem rm7 (l : Launch) (Z : State) (aZ : Array Value) (hw : ∀ d ∈ tables_1, d.before aZ Z = true) (ws : List Jvm.Cond) (a0 : Addr) (h0 : Heap) (n0 : Nat) (Z0 : n0 ≤ h0.size) :
    MetFree l (⟨"java/lang/Record", "<init>", "()V"⟩ : MethodName) (head1 (Jvm.Cond.code (⟨"java/lang/Record", "<init>", "()V"⟩ : MethodName) jdk_30_method_1_code 1 none :: ws) ({ frames := 1, cells := 0, slots := 0, locals := 12 } : Room)) (fun a U => a = #[(.ref a0)] ∧ Z.Warmed39 U.vm ∧ U.heap = h0) (fun _ _ _ _ _ => True) (fun _ U o U' => ∃ v L, o = .returned v ∧ Q7 Z a0 h0 n0 v U'.heap L ∧ FrameEnd U o U' L ({ frames := 1, cells := 0, slots := 0, locals := 12 } : Room).cells ({ frames := 1, cells := 0, slots := 0, locals := 12 } : Room).slots) := by
  refine MetFree.of_bodySF (plainFor_of_name pn_java_lang_Record) hisR ?_
  intro p e s m args below meth c s₁ Bd hml0 hP hK
  obtain ⟨rfl, hZ, hh⟩ := hP
  have hx := Bd.exec
  have hby := Bd.bytes
  have hlk : meth.locks = false := BodyLoose.notSynchronized Bd
  have hml : c.maxLocals = 1 := hml0
  have hown : s.vm.findClass "java/lang/Record" = some m.cls := findClass_of_methodNamed Bd.named
  have hnm := (name_of_methodNamed Bd.named Bd.method).1
  have X0 : Stand p l e ({ frames := 1, cells := 0, slots := 0, locals := 12 } : Room) s m #[(.ref a0)] below meth c s₁ [] 0 0 := Stand.of_body Bd
  have e0 : s₁.heap = h0 := by rw [← hh, Bd.state]; rfl
  have N0 := Fr.nil n0
  show OEnd p e below s s₁ (entryFrame m #[(.ref a0)] 1) (Q7 Z a0 h0 n0) ({ frames := 1, cells := 0, slots := 0, locals := 12 } : Room).cells ({ frames := 1, cells := 0, slots := 0, locals := 12 } : Room).slots
  refine OEnd.go (g' := (mkF m 0 #[.val (.ref a0)] [])) (fun _ k => castTop (ef_7 m a0) k) ?_
  refine OEnd.go (T' := s₁) (g' := (mkF m 1 #[.val (.ref a0)] [(.ref a0)])) (fun t k => ?_) ?_
  · show Steps p.tables e below (s₁.setTop (mkF m 0 #[.val (.ref a0)] [])) t
    refine XS.aloadN X0.here hx rfl (hb hby d7_0) rfl rfl ?_
    show Steps p.tables e below (s₁.setTop (mkF m 1 #[.val (.ref a0)] [(.ref a0)])) t
    exact k
  obtain ⟨T1, X1, e1, st1⟩ := initO X0 hx hZ hown (hw _ (List.mem_of_getElem? (i := 37) rfl)) (hw _ (List.mem_of_getElem? (i := 23) rfl)) (hw _ (List.mem_of_getElem? (i := 24) rfl)) e0 (g := (mkF m 1 #[.val (.ref a0)] [(.ref a0)])) rfl (by rw [hml]; rfl) rfl (hb hby d7_1) (by decide) (W := 0) (by show 2 * 0 + _ ≤ _; exact Nat.le_of_eq rfl) (by decide)
  refine OEnd.go (g' := (mkF m 4 #[.val (.ref a0)] [])) st1 ?_
  exact OEnd.void X1 hx Bd.returns hlk (hb hby d7_4) ⟨rfl, N0, e1⟩ (by decide) (by decide)
theorem d12_0 : decode jdk_71_method_1_code 0 = .ok (.aload_n 0, 1) := by decide +kernel
theorem d12_1 : decode jdk_71_method_1_code 1 = .ok (.invokespecial 1, 3) := by decide +kernel
theorem d12_4 : decode jdk_71_method_1_code 4 = .ok (.return_, 1) := by decide +kernel
theorem pn_java_util_AbstractMap : plainName "java/util/AbstractMap" = true := by first | (simp [plainName, overriddenIn]; done) | decide +kernel
theorem ef_12 (m : MethodId) (x0 : Addr) : entryFrame m #[(.ref x0)] 1 = mkF m 0 #[.val (.ref x0)] [] := by first | (simp [entryFrame, mkF, argsToLocals, Value.category]; done) | rfl
def Q12 (Z : State) (a0 : Addr) (h0 : Heap) (n0 : Nat) (v : Option Value) (h : Heap) (L : List Loc) : Prop := v = none ∧ Fr n0 L ∧ h = h0
set_option maxRecDepth 65536 in
set_option maxHeartbeats 40000000 in
theorem rm12 (l : Launch) (Z : State) (aZ : Array Value) (hw : ∀ d ∈ tables_1, d.before aZ Z = true) (ws : List Jvm.Cond) (a0 : Addr) (h0 : Heap) (n0 : Nat) (Z0 : n0 ≤ h0.size) :
    MetFree l (⟨"java/util/AbstractMap", "<init>", "()V"⟩ : MethodName) (head1 (Jvm.Cond.code (⟨"java/util/AbstractMap", "<init>", "()V"⟩ : MethodName) jdk_71_method_1_code 1 none :: ws) ({ frames := 1, cells := 0, slots := 0, locals := 12 } : Room)) (fun a U => a = #[(.ref a0)] ∧ Z.Warmed39 U.vm ∧ U.heap = h0) (fun _ _ _ _ _ => True) (fun _ U o U' => ∃ v L, o = .returned v ∧ Q12 Z a0 h0 n0 v U'.heap L ∧ FrameEnd U o U' L ({ frames := 1, cells := 0, slots := 0, locals := 12 } : Room).cells ({ frames := 1, cells := 0, slots := 0, locals := 12 } : Room).slots) := by
  refine MetFree.of_bodySF (plainFor_of_name pn_java_util_AbstractMap) hisR ?_
  intro p e s m args below meth c s₁ Bd hml0 hP hK
  obtain ⟨rfl, hZ, hh⟩ := hP
  have hx := Bd.exec
  have hby := Bd.bytes
  have hlk : meth.locks = false := BodyLoose.notSynchronized Bd
  have hml : c.maxLocals = 1 := hml0
  have hown : s.vm.findClass "java/util/AbstractMap" = some m.cls := findClass_of_methodNamed Bd.named
  have hnm := (name_of_methodNamed Bd.named Bd.method).1
  have X0 : Stand p l e ({ frames := 1, cells := 0, slots := 0, locals := 12 } : Room) s m #[(.ref a0)] below meth c s₁ [] 0 0 := Stand.of_body Bd
  have e0 : s₁.heap = h0 := by rw [← hh, Bd.state]; rfl
  have N0 := Fr.nil n0
  show OEnd p e below s s₁ (entryFrame m #[(.ref a0)] 1) (Q12 Z a0 h0 n0) ({ frames := 1, cells := 0, slots := 0, locals := 12 } : Room).cells ({ frames := 1, cells := 0, slots := 0, locals := 12 } : Room).slots
  refine OEnd.go (g' := (mkF m 0 #[.val (.ref a0)] [])) (fun _ k => castTop (ef_12 m a0) k) ?_
  refine OEnd.go (T' := s₁) (g' := (mkF m 1 #[.val (.ref a0)] [(.ref a0)])) (fun t k => ?_) ?_
  · show Steps p.tables e below (s₁.setTop (mkF m 0 #[.val (.ref a0)] [])) t
    refine XS.aloadN X0.here hx rfl (hb hby d12_0) rfl rfl ?_
    show Steps p.tables e below (s₁.setTop (mkF m 1 #[.val (.ref a0)] [(.ref a0)])) t
    exact k
  obtain ⟨T1, X1, e1, st1⟩ := initO X0 hx hZ hown (hw _ (List.mem_of_getElem? (i := 79) rfl)) (hw _ (List.mem_of_getElem? (i := 23) rfl)) (hw _ (List.mem_of_getElem? (i := 24) rfl)) e0 (g := (mkF m 1 #[.val (.ref a0)] [(.ref a0)])) rfl (by rw [hml]; rfl) rfl (hb hby d12_1) (by decide) (W := 0) (by show 2 * 0 + _ ≤ _; exact Nat.le_of_eq rfl) (by decide)
  refine OEnd.go (g' := (mkF m 4 #[.val (.ref a0)] [])) st1 ?_
  exact OEnd.void X1 hx Bd.returns hlk (hb hby d12_4) ⟨rfl, N0, e1⟩ (by decide) (by decide)
theorem d9_0 : decode jdk_2802_method_2_code 0 = .ok (.aload_n 0, 1) := by decide +kernel
theorem d9_1 : decode jdk_2802_method_2_code 1 = .ok (.invokespecial 1, 3) := by decide +kernel
theorem d9_4 : decode jdk_2802_method_2_code 4 = .ok (.return_, 1) := by decide +kernel
theorem pn_java_util_concurrent_atomic_AtomicBoolean : plainName "java/util/concurrent/atomic/AtomicBoolean" = true := by first | (simp [plainName, overriddenIn]; done) | decide +kernel
theorem ef_9 (m : MethodId) (x0 : Addr) : entryFrame m #[(.ref x0)] 1 = mkF m 0 #[.val (.ref x0)] [] := by first | (simp [entryFrame, mkF, argsToLocals, Value.category]; done) | rfl
def Q9 (Z : State) (a0 : Addr) (h0 : Heap) (n0 : Nat) (v : Option Value) (h : Heap) (L : List Loc) : Prop := v = none ∧ Fr n0 L ∧ h = h0
set_option maxRecDepth 65536 in
set_option maxHeartbeats 40000000 in
theorem rm9 (l : Launch) (Z : State) (aZ : Array Value) (hw : ∀ d ∈ tables_1, d.before aZ Z = true) (ws : List Jvm.Cond) (a0 : Addr) (h0 : Heap) (n0 : Nat) (Z0 : n0 ≤ h0.size) :
    MetFree l (⟨"java/util/concurrent/atomic/AtomicBoolean", "<init>", "()V"⟩ : MethodName) (head1 (Jvm.Cond.code (⟨"java/util/concurrent/atomic/AtomicBoolean", "<init>", "()V"⟩ : MethodName) jdk_2802_method_2_code 1 none :: ws) ({ frames := 1, cells := 0, slots := 0, locals := 12 } : Room)) (fun a U => a = #[(.ref a0)] ∧ Z.Warmed39 U.vm ∧ U.heap = h0) (fun _ _ _ _ _ => True) (fun _ U o U' => ∃ v L, o = .returned v ∧ Q9 Z a0 h0 n0 v U'.heap L ∧ FrameEnd U o U' L ({ frames := 1, cells := 0, slots := 0, locals := 12 } : Room).cells ({ frames := 1, cells := 0, slots := 0, locals := 12 } : Room).slots) := by
  refine MetFree.of_bodySF (plainFor_of_name pn_java_util_concurrent_atomic_AtomicBoolean) hisR ?_
  intro p e s m args below meth c s₁ Bd hml0 hP hK
  obtain ⟨rfl, hZ, hh⟩ := hP
  have hx := Bd.exec
  have hby := Bd.bytes
  have hlk : meth.locks = false := BodyLoose.notSynchronized Bd
  have hml : c.maxLocals = 1 := hml0
  have hown : s.vm.findClass "java/util/concurrent/atomic/AtomicBoolean" = some m.cls := findClass_of_methodNamed Bd.named
  have hnm := (name_of_methodNamed Bd.named Bd.method).1
  have X0 : Stand p l e ({ frames := 1, cells := 0, slots := 0, locals := 12 } : Room) s m #[(.ref a0)] below meth c s₁ [] 0 0 := Stand.of_body Bd
  have e0 : s₁.heap = h0 := by rw [← hh, Bd.state]; rfl
  have N0 := Fr.nil n0
  show OEnd p e below s s₁ (entryFrame m #[(.ref a0)] 1) (Q9 Z a0 h0 n0) ({ frames := 1, cells := 0, slots := 0, locals := 12 } : Room).cells ({ frames := 1, cells := 0, slots := 0, locals := 12 } : Room).slots
  refine OEnd.go (g' := (mkF m 0 #[.val (.ref a0)] [])) (fun _ k => castTop (ef_9 m a0) k) ?_
  refine OEnd.go (T' := s₁) (g' := (mkF m 1 #[.val (.ref a0)] [(.ref a0)])) (fun t k => ?_) ?_
  · show Steps p.tables e below (s₁.setTop (mkF m 0 #[.val (.ref a0)] [])) t
    refine XS.aloadN X0.here hx rfl (hb hby d9_0) rfl rfl ?_
    show Steps p.tables e below (s₁.setTop (mkF m 1 #[.val (.ref a0)] [(.ref a0)])) t
    exact k
  obtain ⟨T1, X1, e1, st1⟩ := initO X0 hx hZ hown (hw _ (List.mem_of_getElem? (i := 55) rfl)) (hw _ (List.mem_of_getElem? (i := 23) rfl)) (hw _ (List.mem_of_getElem? (i := 24) rfl)) e0 (g := (mkF m 1 #[.val (.ref a0)] [(.ref a0)])) rfl (by rw [hml]; rfl) rfl (hb hby d9_1) (by decide) (W := 0) (by show 2 * 0 + _ ≤ _; exact Nat.le_of_eq rfl) (by decide)
  refine OEnd.go (g' := (mkF m 4 #[.val (.ref a0)] [])) st1 ?_
  exact OEnd.void X1 hx Bd.returns hlk (hb hby d9_4) ⟨rfl, N0, e1⟩ (by decide) (by decide)
theorem d2_0 : decode jdk_43_method_3_code 0 = .ok (.iload_n 0, 1) := by decide +kernel
theorem d2_1 : decode jdk_43_method_3_code 1 = .ok (.sipush 255, 3) := by decide +kernel
theorem d2_4 : decode jdk_43_method_3_code 4 = .ok (.if_icmp .gt 7, 3) := by decide +kernel
theorem d2_11 : decode jdk_43_method_3_code 11 = .ok (.iconst 0, 1) := by decide +kernel
theorem d2_7 : decode jdk_43_method_3_code 7 = .ok (.iconst 1, 1) := by decide +kernel
theorem d2_8 : decode jdk_43_method_3_code 8 = .ok (.goto 4, 3) := by decide +kernel
theorem d2_12 : decode jdk_43_method_3_code 12 = .ok (.ireturn, 1) := by decide +kernel
def f2 (p0 : Int32) : Int32 := nar .boolean (if (255 : Int32) < p0 then (0 : Int32) else (1 : Int32))
theorem pn_java_lang_StringLatin1 : plainName "java/lang/StringLatin1" = true := by first | (simp [plainName, overriddenIn]; done) | decide +kernel
theorem ef_2 (m : MethodId) (x0 : Int32) : entryFrame m #[(.int x0)] 1 = mkF m 0 #[.val (.int x0)] [] := by first | (simp [entryFrame, mkF, argsToLocals, Value.category]; done) | rfl
def Q2 (Z : State) (p0 : Int32) (h0 : Heap) (n0 : Nat) (v : Option Value) (h : Heap) (L : List Loc) : Prop := v = some (.int (f2 p0)) ∧ Fr n0 L ∧ h = h0
set_option maxRecDepth 65536 in
set_option maxHeartbeats 40000000 in
theorem rm2 (l : Launch) (Z : State) (aZ : Array Value) (hw : ∀ d ∈ tables_1, d.before aZ Z = true) (ws : List Jvm.Cond) (p0 : Int32) (h0 : Heap) (n0 : Nat) (Z0 : n0 ≤ h0.size) :
    MetFree l (⟨"java/lang/StringLatin1", "canEncode", "(C)Z"⟩ : MethodName) (head1 (Jvm.Cond.code (⟨"java/lang/StringLatin1", "canEncode", "(C)Z"⟩ : MethodName) jdk_43_method_3_code 1 (some .boolean) :: ws) ({ frames := 0, cells := 0, slots := 0, locals := 0 } : Room)) (fun a U => a = #[(.int p0)] ∧ Z.Warmed39 U.vm ∧ U.heap = h0) (fun _ _ _ _ _ => True) (fun _ U o U' => ∃ v L, o = .returned v ∧ Q2 Z p0 h0 n0 v U'.heap L ∧ FrameEnd U o U' L ({ frames := 0, cells := 0, slots := 0, locals := 0 } : Room).cells ({ frames := 0, cells := 0, slots := 0, locals := 0 } : Room).slots) := by
  refine MetFree.of_bodySF (plainFor_of_name pn_java_lang_StringLatin1) hisR ?_
  intro p e s m args below meth c s₁ Bd hml0 hP hK
  obtain ⟨rfl, hZ, hh⟩ := hP
  have hx := Bd.exec
  have hby := Bd.bytes
  have hlk : meth.locks = false := BodyLoose.notSynchronized Bd
  have hml : c.maxLocals = 1 := hml0
  have hown : s.vm.findClass "java/lang/StringLatin1" = some m.cls := findClass_of_methodNamed Bd.named
  have hnm := (name_of_methodNamed Bd.named Bd.method).1
  have X0 : Stand p l e ({ frames := 0, cells := 0, slots := 0, locals := 0 } : Room) s m #[(.int p0)] below meth c s₁ [] 0 0 := Stand.of_body Bd
  have e0 : s₁.heap = h0 := by rw [← hh, Bd.state]; rfl
  have N0 := Fr.nil n0
  show OEnd p e below s s₁ (entryFrame m #[(.int p0)] 1) (Q2 Z p0 h0 n0) ({ frames := 0, cells := 0, slots := 0, locals := 0 } : Room).cells ({ frames := 0, cells := 0, slots := 0, locals := 0 } : Room).slots
  refine OEnd.go (g' := (mkF m 0 #[.val (.int p0)] [])) (fun _ k => castTop (ef_2 m p0) k) ?_
  refine OEnd.go (T' := s₁) (g' := (mkF m 4 #[.val (.int p0)] [(.int (255 : Int32)), (.int p0)])) (fun t k => ?_) ?_
  · show Steps p.tables e below (s₁.setTop (mkF m 0 #[.val (.int p0)] [])) t
    refine XS.iloadN X0.here hx rfl (hb hby d2_0) rfl ?_
    show Steps p.tables e below (s₁.setTop (mkF m 1 #[.val (.int p0)] [(.int p0)])) t
    refine XS.sipush X0.here hx rfl (hb hby d2_1) ?_
    show Steps p.tables e below (s₁.setTop (mkF m 4 #[.val (.int p0)] [(.int (255 : Int32)), (.int p0)])) t
    exact k
  refine OEnd.go (T' := s₁) (g' := (mkF m 12 #[.val (.int p0)] [(.int (if (255 : Int32) < p0 then (0 : Int32) else (1 : Int32)))])) (fun t k => ?_) ?_
  · show Steps p.tables e below (s₁.setTop (mkF m 4 #[.val (.int p0)] [(.int (255 : Int32)), (.int p0)])) t
    by_cases hc1 : (255 : Int32) < p0
    · skip
      refine XS.icmpYes X0.here hx rfl (pc0 := 4) (pc' := 11) rfl (hb hby d2_4) rfl (tlt (hc1)).2.2.1 (by decide) (by decide) ?_
      show Steps p.tables e below (s₁.setTop (mkF m 11 #[.val (.int p0)] [])) t
      refine SGo.go (T' := s₁) (g' := (mkF m 12 #[.val (.int p0)] [(.int (0 : Int32))])) (fun t k => ?_) ?_
      · show Steps p.tables e below (s₁.setTop (mkF m 11 #[.val (.int p0)] [])) t
        refine XS.iconst X0.here hx rfl (hb hby d2_11) ?_
        show Steps p.tables e below (s₁.setTop (mkF m 12 #[.val (.int p0)] [(.int (0 : Int32))])) t
        exact k
      exact (own_k (f := fun (z : Int32) => mkF m 12 #[.val (.int p0)] [(.int z)]) (if_pos hc1) k)
    · skip
      refine XS.icmpNo X0.here hx rfl (hb hby d2_4) rfl (flt (hc1)).2.2.1 ?_
      show Steps p.tables e below (s₁.setTop (mkF m 7 #[.val (.int p0)] [])) t
      refine SGo.go (T' := s₁) (g' := (mkF m 12 #[.val (.int p0)] [(.int (1 : Int32))])) (fun t k => ?_) ?_
      · show Steps p.tables e below (s₁.setTop (mkF m 7 #[.val (.int p0)] [])) t
        refine XS.iconst X0.here hx rfl (hb hby d2_7) ?_
        show Steps p.tables e below (s₁.setTop (mkF m 8 #[.val (.int p0)] [(.int (1 : Int32))])) t
        refine XS.goto X0.here hx rfl (pc0 := 8) (pc' := 12) rfl (hb hby d2_8) (by decide) (by decide) ?_
        show Steps p.tables e below (s₁.setTop (mkF m 12 #[.val (.int p0)] [(.int (1 : Int32))])) t
        exact k
      exact (own_k (f := fun (z : Int32) => mkF m 12 #[.val (.int p0)] [(.int z)]) (if_neg hc1) k)
  exact OEnd.nar X0 hx (t := .boolean) Bd.returns (by simp) hlk (hb hby d2_12) ⟨rfl, N0, e0⟩ (by decide) (by decide)
theorem d3_0 : decode jdk_43_method_46_code 0 = .ok (.iconst 1, 1) := by decide +kernel
theorem d3_1 : decode jdk_43_method_46_code 1 = .ok (.newarray .byte, 2) := by decide +kernel
theorem d3_3 : decode jdk_43_method_46_code 3 = .ok (.dup, 1) := by decide +kernel
theorem d3_4 : decode jdk_43_method_46_code 4 = .ok (.iconst 0, 1) := by decide +kernel
theorem d3_5 : decode jdk_43_method_46_code 5 = .ok (.iload_n 0, 1) := by decide +kernel
theorem d3_6 : decode jdk_43_method_46_code 6 = .ok (.i2b, 1) := by decide +kernel
theorem d3_7 : decode jdk_43_method_46_code 7 = .ok (.bastore, 1) := by decide +kernel
theorem d3_8 : decode jdk_43_method_46_code 8 = .ok (.areturn, 1) := by decide +kernel
theorem ef_3 (m : MethodId) (x0 : Int32) : entryFrame m #[(.int x0)] 1 = mkF m 0 #[.val (.int x0)] [] := by first | (simp [entryFrame, mkF, argsToLocals, Value.category]; done) | rfl
def Q3 (Z : State) (p0 : Int32) (h0 : Heap) (n0 : Nat) (v : Option Value) (h : Heap) (L : List Loc) : Prop := ∃ r : Addr, v = some (.ref r) ∧ n0 ≤ r ∧ h0.size ≤ r ∧ Fr n0 L ∧ Keep h0 h []
set_option maxRecDepth 65536 in
set_option maxHeartbeats 40000000 in
theorem rm3 (l : Launch) (Z : State) (aZ : Array Value) (hw : ∀ d ∈ tables_1, d.before aZ Z = true) (ws : List Jvm.Cond) (p0 : Int32) (h0 : Heap) (n0 : Nat) (Z0 : n0 ≤ h0.size) :
    MetFree l (⟨"java/lang/StringLatin1", "toBytes", "(C)[B"⟩ : MethodName) (head1 (Jvm.Cond.code (⟨"java/lang/StringLatin1", "toBytes", "(C)[B"⟩ : MethodName) jdk_43_method_46_code 1 (some (.array .byte)) :: ws) ({ frames := 0, cells := 1, slots := 1, locals := 0 } : Room)) (fun a U => a = #[(.int p0)] ∧ Z.Warmed39 U.vm ∧ U.heap = h0) (fun _ _ _ _ _ => True) (fun _ U o U' => ∃ v L, o = .returned v ∧ Q3 Z p0 h0 n0 v U'.heap L ∧ FrameEnd U o U' L ({ frames := 0, cells := 1, slots := 1, locals := 0 } : Room).cells ({ frames := 0, cells := 1, slots := 1, locals := 0 } : Room).slots) := by
  refine MetFree.of_bodySF (plainFor_of_name pn_java_lang_StringLatin1) hisR ?_
  intro p e s m args below meth c s₁ Bd hml0 hP hK
  obtain ⟨rfl, hZ, hh⟩ := hP
  have hx := Bd.exec
  have hby := Bd.bytes
  have hlk : meth.locks = false := BodyLoose.notSynchronized Bd
  have hml : c.maxLocals = 1 := hml0
  have hown : s.vm.findClass "java/lang/StringLatin1" = some m.cls := findClass_of_methodNamed Bd.named
  have hnm := (name_of_methodNamed Bd.named Bd.method).1
  have X0 : Stand p l e ({ frames := 0, cells := 1, slots := 1, locals := 0 } : Room) s m #[(.int p0)] below meth c s₁ [] 0 0 := Stand.of_body Bd
  have e0 : s₁.heap = h0 := by rw [← hh, Bd.state]; rfl
  have N0 := Fr.nil n0
  have K0 : Keep h0 h0 [] := Keep.refl _ _
  show OEnd p e below s s₁ (entryFrame m #[(.int p0)] 1) (Q3 Z p0 h0 n0) ({ frames := 0, cells := 1, slots := 1, locals := 0 } : Room).cells ({ frames := 0, cells := 1, slots := 1, locals := 0 } : Room).slots
  refine OEnd.go (g' := (mkF m 0 #[.val (.int p0)] [])) (fun _ k => castTop (ef_3 m p0) k) ?_
  refine OEnd.go (T' := s₁) (g' := (mkF m 1 #[.val (.int p0)] [(.int (1 : Int32))])) (fun t k => ?_) ?_
  · show Steps p.tables e below (s₁.setTop (mkF m 0 #[.val (.int p0)] [])) t
    refine XS.iconst X0.here hx rfl (hb hby d3_0) ?_
    show Steps p.tables e below (s₁.setTop (mkF m 1 #[.val (.int p0)] [(.int (1 : Int32))])) t
    exact k
  obtain ⟨T1, h1, k1, X1, e1, E1, A1, st1⟩ := newP X0 hx hZ (hw _ (List.mem_of_getElem? (i := 17) rfl)) e0 (g := (mkF m 1 #[.val (.int p0)] [(.int (1 : Int32))])) rfl (hb hby d3_1) rfl (by decide) (cap := 1) (by decide) (by decide) (by decide) (by decide)
  obtain ⟨b3_1, g1⟩ : ∃ z, z = h0.size := ⟨_, rfl⟩
  rw [← g1] at A1 st1
  have gle_b3_1 : n0 ≤ b3_1 := Nat.le_trans Z0 (Nat.le_of_eq g1.symm)
  have sz_b3_1 : h0.size ≤ b3_1 := Nat.le_trans K0.1 (Nat.le_of_eq g1.symm)
  have Z1 : n0 ≤ h1.size := Nat.le_trans Z0 E1.1
  have K1 : Keep h0 h1 [] := K0.ext E1
  have V1 : OArr Z h1 b3_1 .byte (1 : Int32) [(.int (0 : Int32))] (.int (0 : Int32)) := ⟨_, (Arv.new A1 (by decide)).pad (pad_rep [] (.int (0 : Int32)) 1)⟩
  refine OEnd.go (g' := (mkF m 3 #[.val (.int p0)] [(.ref b3_1)])) st1 ?_
  refine OEnd.go (T' := T1) (g' := (mkF m 7 #[.val (.int p0)] [(.int (p0.toInt8.toInt32)), (.int (0 : Int32)), (.ref b3_1), (.ref b3_1)])) (fun t k => ?_) ?_
  · show Steps p.tables e below (T1.setTop (mkF m 3 #[.val (.int p0)] [(.ref b3_1)])) t
    refine XS.dup X1.here hx rfl (hb hby d3_3) rfl rfl ?_
    show Steps p.tables e below (T1.setTop (mkF m 4 #[.val (.int p0)] [(.ref b3_1), (.ref b3_1)])) t
    refine XS.iconst X1.here hx rfl (hb hby d3_4) ?_
    show Steps p.tables e below (T1.setTop (mkF m 5 #[.val (.int p0)] [(.int (0 : Int32)), (.ref b3_1), (.ref b3_1)])) t
    refine XS.iloadN X1.here hx rfl (hb hby d3_5) rfl ?_
    show Steps p.tables e below (T1.setTop (mkF m 6 #[.val (.int p0)] [(.int p0), (.int (0 : Int32)), (.ref b3_1), (.ref b3_1)])) t
    refine XS.i2b X1.here hx rfl (hb hby d3_6) rfl ?_
    show Steps p.tables e below (T1.setTop (mkF m 7 #[.val (.int p0)] [(.int (p0.toInt8.toInt32)), (.int (0 : Int32)), (.ref b3_1), (.ref b3_1)])) t
    exact k
  obtain ⟨kc2, cl2, Ar2, q2, S2, M2, H2, G2⟩ := id V1
  have hin2 : ¬ ((0 : Int32) < 0 ∨ cl2.slots.size ≤ ((0 : Int32)).toNatClampNeg) := inb_of S2 ⟨by decide, by decide⟩
  obtain ⟨T2, h2, X2, e2, W2, st2⟩ := stB X1 hx hZ e1 Ar2 (j := (0 : Int32)) hin2 (g := (mkF m 7 #[.val (.int p0)] [(.int (p0.toInt8.toInt32)), (.int (0 : Int32)), (.ref b3_1), (.ref b3_1)])) rfl rfl (hb hby d3_7)
  have N2 := Fr.snoc X2 N0 gle_b3_1
  have Z2 : n0 ≤ h2.size := Nat.le_trans Z1 (Keep.of_wr W2).1
  have K2 : Keep h0 h2 [] := K1.wr W2 (Or.inr sz_b3_1)
  have V2 : OArr Z h2 b3_1 .byte (1 : Int32) [(.int (nar .byte (p0.toInt8.toInt32)))] (.int (0 : Int32)) := ⟨_, Arv.set Ar2 q2 S2 M2 H2 G2 (fits_nar_byte _) W2 0 rfl (Nat.le_of_ble_eq_true rfl)⟩
  refine OEnd.go (g' := (mkF m 8 #[.val (.int p0)] [(.ref b3_1)])) st2 ?_
  exact OEnd.ref X2 hx Bd.returns rfl hlk (hb hby d3_8) ⟨b3_1, rfl, gle_b3_1, sz_b3_1, N2, (own_at e2 (P := fun h => Keep h0 h []) K2)⟩ (by decide) (by decide)
theorem d4_0 : decode jdk_42_method_151_code 0 = .ok (.aload_n 0, 1) := by decide +kernel
theorem d4_1 : decode jdk_42_method_151_code 1 = .ok (.invokespecial 1, 3) := by decide +kernel
theorem d4_4 : decode jdk_42_method_151_code 4 = .ok (.aload_n 0, 1) := by decide +kernel
theorem d4_5 : decode jdk_42_method_151_code 5 = .ok (.aload_n 1, 1) := by decide +kernel
theorem d4_6 : decode jdk_42_method_151_code 6 = .ok (.putfield 9, 3) := by decide +kernel
theorem d4_9 : decode jdk_42_method_151_code 9 = .ok (.aload_n 0, 1) := by decide +kernel
theorem d4_10 : decode jdk_42_method_151_code 10 = .ok (.iload_n 2, 1) := by decide +kernel
theorem d4_11 : decode jdk_42_method_151_code 11 = .ok (.putfield 15, 3) := by decide +kernel
theorem d4_14 : decode jdk_42_method_151_code 14 = .ok (.return_, 1) := by decide +kernel
theorem pn_java_lang_String : plainName "java/lang/String" = true := by first | (simp [plainName, overriddenIn]; done) | decide +kernel
theorem ef_4 (m : MethodId) (x0 : Addr) (x1 : Addr) (x2 : Int32) : entryFrame m #[(.ref x0), (.ref x1), (.int x2)] 3 = mkF m 0 #[.val (.ref x0), .val (.ref x1), .val (.int x2)] [] := by first | (simp [entryFrame, mkF, argsToLocals, Value.category]; done) | rfl
def Q4 (Z : State) (a0 : Addr) (a1 : Addr) (p2 : Int32) (h0 : Heap) (n0 : Nat) (v : Option Value) (h : Heap) (L : List Loc) : Prop := v = none ∧ Fr n0 L ∧ Keep h0 h [a0]
set_option maxRecDepth 65536 in
set_option maxHeartbeats 40000000 in
theorem rm4 (l : Launch) (Z : State) (aZ : Array Value) (hw : ∀ d ∈ tables_1, d.before aZ Z = true) (ws : List Jvm.Cond) (a0 : Addr) (a1 : Addr) (p2 : Int32) (h0 : Heap) (n0 : Nat) (Z0 : n0 ≤ h0.size) (Fv : Fld Z h0 a0 "java/lang/String" "value" "[B" .null) (Fc : Fld Z h0 a0 "java/lang/String" "coder" "B" (.int (0 : Int32))) (E0 : Exa Z h0 a0 "java/lang/String") (g0 : n0 ≤ a0) :
    MetFree l (⟨"java/lang/String", "<init>", "([BB)V"⟩ : MethodName) (head1 (Jvm.Cond.code (⟨"java/lang/String", "<init>", "([BB)V"⟩ : MethodName) jdk_42_method_151_code 3 none :: ws) ({ frames := 1, cells := 0, slots := 0, locals := 12 } : Room)) (fun a U => a = #[(.ref a0), (.ref a1), (.int p2)] ∧ Z.Warmed39 U.vm ∧ U.heap = h0) (fun _ _ _ _ _ => True) (fun _ U o U' => ∃ v L, o = .returned v ∧ Q4 Z a0 a1 p2 h0 n0 v U'.heap L ∧ FrameEnd U o U' L ({ frames := 1, cells := 0, slots := 0, locals := 12 } : Room).cells ({ frames := 1, cells := 0, slots := 0, locals := 12 } : Room).slots) := by
  refine MetFree.of_bodySF (plainFor_of_name pn_java_lang_String) hisR ?_
  intro p e s m args below meth c s₁ Bd hml0 hP hK
  obtain ⟨rfl, hZ, hh⟩ := hP
  have hx := Bd.exec
  have hby := Bd.bytes
  have hlk : meth.locks = false := BodyLoose.notSynchronized Bd
  have hml : c.maxLocals = 3 := hml0
  have hown : s.vm.findClass "java/lang/String" = some m.cls := findClass_of_methodNamed Bd.named
  have hnm := (name_of_methodNamed Bd.named Bd.method).1
  have X0 : Stand p l e ({ frames := 1, cells := 0, slots := 0, locals := 12 } : Room) s m #[(.ref a0), (.ref a1), (.int p2)] below meth c s₁ [] 0 0 := Stand.of_body Bd
  have e0 : s₁.heap = h0 := by rw [← hh, Bd.state]; rfl
  have N0 := Fr.nil n0
  have K0 : Keep h0 h0 [a0] := Keep.refl _ _
  show OEnd p e below s s₁ (entryFrame m #[(.ref a0), (.ref a1), (.int p2)] 3) (Q4 Z a0 a1 p2 h0 n0) ({ frames := 1, cells := 0, slots := 0, locals := 12 } : Room).cells ({ frames := 1, cells := 0, slots := 0, locals := 12 } : Room).slots
  refine OEnd.go (g' := (mkF m 0 #[.val (.ref a0), .val (.ref a1), .val (.int p2)] [])) (fun _ k => castTop (ef_4 m a0 a1 p2) k) ?_
  refine OEnd.go (T' := s₁) (g' := (mkF m 1 #[.val (.ref a0), .val (.ref a1), .val (.int p2)] [(.ref a0)])) (fun t k => ?_) ?_
  · show Steps p.tables e below (s₁.setTop (mkF m 0 #[.val (.ref a0), .val (.ref a1), .val (.int p2)] [])) t
    refine XS.aloadN X0.here hx rfl (hb hby d4_0) rfl rfl ?_
    show Steps p.tables e below (s₁.setTop (mkF m 1 #[.val (.ref a0), .val (.ref a1), .val (.int p2)] [(.ref a0)])) t
    exact k
  obtain ⟨T1, X1, e1, st1⟩ := initO X0 hx hZ hown (hw _ (List.mem_of_getElem? (i := 22) rfl)) (hw _ (List.mem_of_getElem? (i := 23) rfl)) (hw _ (List.mem_of_getElem? (i := 24) rfl)) e0 (g := (mkF m 1 #[.val (.ref a0), .val (.ref a1), .val (.int p2)] [(.ref a0)])) rfl (by rw [hml]; rfl) rfl (hb hby d4_1) (by decide) (W := 0) (by show 2 * 0 + _ ≤ _; exact Nat.le_of_eq rfl) (by decide)
  refine OEnd.go (g' := (mkF m 4 #[.val (.ref a0), .val (.ref a1), .val (.int p2)] [])) st1 ?_
  refine OEnd.go (T' := T1) (g' := (mkF m 6 #[.val (.ref a0), .val (.ref a1), .val (.int p2)] [(.ref a1), (.ref a0)])) (fun t k => ?_) ?_
  · show Steps p.tables e below (T1.setTop (mkF m 4 #[.val (.ref a0), .val (.ref a1), .val (.int p2)] [])) t
    refine XS.aloadN X1.here hx rfl (hb hby d4_4) rfl rfl ?_
    show Steps p.tables e below (T1.setTop (mkF m 5 #[.val (.ref a0), .val (.ref a1), .val (.int p2)] [(.ref a0)])) t
    refine XS.aloadN X1.here hx rfl (hb hby d4_5) rfl rfl ?_
    show Steps p.tables e below (T1.setTop (mkF m 6 #[.val (.ref a0), .val (.ref a1), .val (.int p2)] [(.ref a1), (.ref a0)])) t
    exact k
  obtain ⟨T2, h2, X2, e2, W2, st2⟩ := putF X1 hx hZ hown (host := "") (Or.inl (hw _ (List.mem_of_getElem? (i := 25) rfl))) Via.refl e1 Fv E0 (Or.inr ⟨(hw _ (List.mem_of_getElem? (i := 26) rfl)), rfl, hnm⟩) (hw _ (List.mem_of_getElem? (i := 13) rfl)) (ty := (.array .byte)) (by decide) rfl rfl (g := (mkF m 6 #[.val (.ref a0), .val (.ref a1), .val (.int p2)] [(.ref a1), (.ref a0)])) rfl rfl (hb hby d4_6)
  have N2 := Fr.snoc X2 N0 g0
  have Z2 : n0 ≤ h2.size := Nat.le_trans Z0 (Keep.of_wr W2).1
  have K2 : Keep h0 h2 [a0] := K0.wr W2 (Or.inl (List.mem_of_getElem? (i := 0) rfl))
  have fc3 : Fld Z h2 a0 "java/lang/String" "value" "[B" (.ref a1) := (Fv.same W2)
  have fc4 : Fld Z h2 a0 "java/lang/String" "coder" "B" (.int (0 : Int32)) := (Fc.other W2 (Or.inr (slot_ne (Or.inr (hw _ (List.mem_of_getElem? (i := 28) rfl))) (Or.inr (hw _ (List.mem_of_getElem? (i := 26) rfl))) (by decide) (t := .byte) (t' := (.array .byte)) (by decide) (by decide))))
  have fc5 : Exa Z h2 a0 "java/lang/String" := (E0.wr W2)
  refine OEnd.go (g' := (mkF m 9 #[.val (.ref a0), .val (.ref a1), .val (.int p2)] [])) st2 ?_
  refine OEnd.go (T' := T2) (g' := (mkF m 11 #[.val (.ref a0), .val (.ref a1), .val (.int p2)] [(.int p2), (.ref a0)])) (fun t k => ?_) ?_
  · show Steps p.tables e below (T2.setTop (mkF m 9 #[.val (.ref a0), .val (.ref a1), .val (.int p2)] [])) t
    refine XS.aloadN X2.here hx rfl (hb hby d4_9) rfl rfl ?_
    show Steps p.tables e below (T2.setTop (mkF m 10 #[.val (.ref a0), .val (.ref a1), .val (.int p2)] [(.ref a0)])) t
    refine XS.iloadN X2.here hx rfl (hb hby d4_10) rfl ?_
    show Steps p.tables e below (T2.setTop (mkF m 11 #[.val (.ref a0), .val (.ref a1), .val (.int p2)] [(.int p2), (.ref a0)])) t
    exact k
  obtain ⟨T6, h6, X6, e6, W6, st6⟩ := putFN X2 hx hZ hown (hw _ (List.mem_of_getElem? (i := 27) rfl)) Via.refl e2 fc4 fc5 (Or.inr ⟨(hw _ (List.mem_of_getElem? (i := 28) rfl)), rfl, hnm⟩) (hw _ (List.mem_of_getElem? (i := 13) rfl)) (ty := .byte) (v' := (.int (p2.toInt8.toInt32))) (by decide) rfl (fits_nar_byte _) (g := (mkF m 11 #[.val (.ref a0), .val (.ref a1), .val (.int p2)] [(.int p2), (.ref a0)])) rfl rfl (hb hby d4_11)
  have N6 := Fr.snoc X6 N2 g0
  have Z6 : n0 ≤ h6.size := Nat.le_trans Z2 (Keep.of_wr W6).1
  have K6 : Keep h0 h6 [a0] := K2.wr W6 (Or.inl (List.mem_of_getElem? (i := 0) rfl))
  have fc7 : Fld Z h6 a0 "java/lang/String" "value" "[B" (.ref a1) := (fc3.other W6 (Or.inr (slot_ne (Or.inr (hw _ (List.mem_of_getElem? (i := 26) rfl))) (Or.inr (hw _ (List.mem_of_getElem? (i := 28) rfl))) (by decide) (t := (.array .byte)) (t' := .byte) (by decide) (by decide))))
  have fc8 : Fld Z h6 a0 "java/lang/String" "coder" "B" (.int (p2.toInt8.toInt32)) := (fc4.same W6)
  have fc9 : Exa Z h6 a0 "java/lang/String" := (fc5.wr W6)
  refine OEnd.go (g' := (mkF m 14 #[.val (.ref a0), .val (.ref a1), .val (.int p2)] [])) st6 ?_
  exact OEnd.void X6 hx Bd.returns hlk (hb hby d4_14) ⟨rfl, N6, (own_at e6 (P := fun h => Keep h0 h [a0]) K6)⟩ (by decide) (by decide)
theorem own_rem (x y : Int32) (d : Int) (hy : y.toInt = d) : (0 ≤ x.toInt → (x - (x / y) * y).toInt = x.toInt % d) ∧ (x.toInt < 0 → (x - (x / y) * y).toInt = -((-x.toInt) % d)) := by
  rw [rem_toInt, hy]
  exact tr _ _
theorem own_n0 : nar .boolean (0 : Int32) = 0 := by decide
theorem own_n1 : nar .boolean (1 : Int32) = 1 := by decide
theorem own_lt (x y : Int32) : x < y ↔ x.toInt < y.toInt := Int32.lt_iff_toInt_lt
theorem own_eq (x y : Int32) : x = y ↔ x.toInt = y.toInt := Int32.toInt_inj.symm
theorem own_four (x : Int32) : (x &&& (3 : Int32)) = 0 ∨ (x &&& (3 : Int32)) = 1 ∨ (x &&& (3 : Int32)) = 2 ∨ (x &&& (3 : Int32)) = 3 := by
  have h := c_mask x 3 2 (by decide) (by decide)
  have e0 : (0 : Int32).toInt = 0 := by decide
  have e1 : (1 : Int32).toInt = 1 := by decide
  have e2 : (2 : Int32).toInt = 2 := by decide
  have e3 : (3 : Int32).toInt = 3 := by decide
  simp only [own_eq, e0, e1, e2, e3, h]
  omega
theorem own_can {c : Int32} (h : ¬ ((255 : Int32) < c)) : ¬ (f2 c = (0 : Int32)) := by
  unfold f2
  rw [if_neg h, own_n1]
  decide
theorem d1_0 : decode jdk_42_method_139_code 0 = .ok (.getstatic 38, 3) := by decide +kernel
theorem d1_3 : decode jdk_42_method_139_code 3 = .ok (.ifCond .eq 23, 3) := by decide +kernel
theorem d1_6 : decode jdk_42_method_139_code 6 = .ok (.iload_n 0, 1) := by decide +kernel
theorem d1_7 : decode jdk_42_method_139_code 7 = .ok (.invokestatic 1015, 3) := by decide +kernel
theorem pd__C_Z : parseMethodDescriptor "(C)Z" = some ⟨[.char], some .boolean⟩ := by decide +kernel
theorem d1_10 : decode jdk_42_method_139_code 10 = .ok (.ifCond .eq 16, 3) := by decide +kernel
theorem d1_13 : decode jdk_42_method_139_code 13 = .ok (.new 10, 3) := by decide +kernel
theorem d1_16 : decode jdk_42_method_139_code 16 = .ok (.dup, 1) := by decide +kernel
theorem d1_17 : decode jdk_42_method_139_code 17 = .ok (.iload_n 0, 1) := by decide +kernel
theorem d1_18 : decode jdk_42_method_139_code 18 = .ok (.invokestatic 1018, 3) := by decide +kernel
theorem pd__C__B : parseMethodDescriptor "(C)[B" = some ⟨[.char], some (.array .byte)⟩ := by decide +kernel
theorem d1_21 : decode jdk_42_method_139_code 21 = .ok (.iconst 0, 1) := by decide +kernel
theorem d1_22 : decode jdk_42_method_139_code 22 = .ok (.invokespecial 209, 3) := by decide +kernel
theorem pd___BB_V : parseMethodDescriptor "([BB)V" = some ⟨[(.array .byte), .byte], none⟩ := by decide +kernel
theorem d1_25 : decode jdk_42_method_139_code 25 = .ok (.areturn, 1) := by decide +kernel
theorem ef_1 (m : MethodId) (x0 : Int32) : entryFrame m #[(.int x0)] 1 = mkF m 0 #[.val (.int x0)] [] := by first | (simp [entryFrame, mkF, argsToLocals, Value.category]; done) | rfl
def Q1 (Z : State) (p0 : Int32) (w0 : Int32) (h0 : Heap) (n0 : Nat) (v : Option Value) (h : Heap) (L : List Loc) : Prop := ∃ r : Addr, v = some (.ref r) ∧ n0 ≤ r ∧ h0.size ≤ r ∧ Fr n0 L ∧ Keep h0 h []
set_option maxRecDepth 65536 in
set_option maxHeartbeats 40000000 in
theorem rm1 (l : Launch) (Z : State) (aZ : Array Value) (hw : ∀ d ∈ tables_1, d.before aZ Z = true) (ws : List Jvm.Cond) (p0 : Int32) (w0 : Int32) (h0 : Heap) (n0 : Nat) (Z0 : n0 ≤ h0.size) (S0 : Sta Z h0 "java/lang/String" "COMPACT_STRINGS" "Z" (.int w0)) (hw0 : ¬ (w0 = (0 : Int32))) (hle : ¬ ((255 : Int32) < p0)) :
    MetFree l (⟨"java/lang/String", "valueOf", "(C)Ljava/lang/String;"⟩ : MethodName) (head1 (Jvm.Cond.code (⟨"java/lang/String", "valueOf", "(C)Ljava/lang/String;"⟩ : MethodName) jdk_42_method_139_code 1 (some (.object "java/lang/String")) :: ws) ({ frames := 2, cells := 2, slots := 5, locals := 27 } : Room)) (fun a U => a = #[(.int p0)] ∧ Z.Warmed39 U.vm ∧ U.heap = h0) (fun _ _ _ _ _ => True) (fun _ U o U' => ∃ v L, o = .returned v ∧ Q1 Z p0 w0 h0 n0 v U'.heap L ∧ FrameEnd U o U' L ({ frames := 2, cells := 2, slots := 5, locals := 27 } : Room).cells ({ frames := 2, cells := 2, slots := 5, locals := 27 } : Room).slots) := by
  refine MetFree.of_bodySF (plainFor_of_name pn_java_lang_String) hisR ?_
  intro p e s m args below meth c s₁ Bd hml0 hP hK
  obtain ⟨rfl, hZ, hh⟩ := hP
  have hx := Bd.exec
  have hby := Bd.bytes
  have hlk : meth.locks = false := BodyLoose.notSynchronized Bd
  have hml : c.maxLocals = 1 := hml0
  have hown : s.vm.findClass "java/lang/String" = some m.cls := findClass_of_methodNamed Bd.named
  have hnm := (name_of_methodNamed Bd.named Bd.method).1
  have X0 : Stand p l e ({ frames := 2, cells := 2, slots := 5, locals := 27 } : Room) s m #[(.int p0)] below meth c s₁ [] 0 0 := Stand.of_body Bd
  have e0 : s₁.heap = h0 := by rw [← hh, Bd.state]; rfl
  have N0 := Fr.nil n0
  have K0 : Keep h0 h0 [] := Keep.refl _ _
  show OEnd p e below s s₁ (entryFrame m #[(.int p0)] 1) (Q1 Z p0 w0 h0 n0) ({ frames := 2, cells := 2, slots := 5, locals := 27 } : Room).cells ({ frames := 2, cells := 2, slots := 5, locals := 27 } : Room).slots
  refine OEnd.go (g' := (mkF m 0 #[.val (.int p0)] [])) (fun _ k => castTop (ef_1 m p0) k) ?_
  obtain ⟨T1, X1, e1, st1⟩ := getS2 X0 hx hZ hown (host := "") (Or.inl (hw _ (List.mem_of_getElem? (i := 7) rfl))) Via.refl e0 S0 (g := (mkF m 0 #[.val (.int p0)] [])) rfl (hb hby d1_0)
  refine OEnd.go (g' := (mkF m 3 #[.val (.int p0)] [(.int w0)])) st1 ?_
  refine OEnd.go (T' := T1) (g' := (mkF m 7 #[.val (.int p0)] [(.int p0)])) (fun t k => ?_) ?_
  · show Steps p.tables e below (T1.setTop (mkF m 3 #[.val (.int p0)] [(.int w0)])) t
    refine XS.ifNo X1.here hx rfl (hb hby d1_3) rfl ((if0 _ _).trans (feq (hw0)).1) ?_
    show Steps p.tables e below (T1.setTop (mkF m 6 #[.val (.int p0)] [])) t
    refine XS.iloadN X1.here hx rfl (hb hby d1_6) rfl ?_
    show Steps p.tables e below (T1.setTop (mkF m 7 #[.val (.int p0)] [(.int p0)])) t
    exact k
  obtain ⟨_, _, ⟨T2, L2, k2, n2⟩, -, X2, ⟨Lc2, hQ2, l2, y2, z2⟩, st2⟩ := Jvm.LawKit.callS X1 hx (y := (⟨"java/lang/StringLatin1", "canEncode", "(C)Z"⟩ : MethodName)) hown (mvT hZ (hw _ (List.mem_of_getElem? (i := 8) rfl))) (mvT hZ (hw _ (List.mem_of_getElem? (i := 9) rfl))) (mvT hZ (hw _ (List.mem_of_getElem? (i := 10) rfl))) (mvT hZ (hw _ (List.mem_of_getElem? (i := 11) rfl))) (by decide) (backOf (W := 0) (rm2 l Z aZ hw [] p0 h0 n0 Z0 ) hZ (hw _ (List.mem_of_getElem? (i := 11) rfl)) (hw _ (List.mem_of_getElem? (i := 10) rfl)) (by decide) (by decide)) (g := (mkF m 7 #[.val (.int p0)] [(.int p0)])) rfl (by rw [hml]; rfl) (argsL := [(.int p0)]) (rest := []) (lenOf pd__C_Z rfl) rfl (by show 2 * 0 + _ ≤ _; exact Nat.le_of_eq rfl) (hb hby d1_7) (fun _ _ => ⟨rfl, e1, (by decide : 0 + 0 ≤ _), (by decide : 0 + 0 ≤ _)⟩)
  dsimp only [Pt.U, Pt.locs, Pt.cells, Pt.slots] at X2 l2 y2 z2 st2 hQ2
  subst l2 y2 z2
  obtain ⟨rfl, N2q, e2⟩ := hQ2
  have N2 := Fr.app N0 N2q
  refine OEnd.go (g' := (mkF m 10 #[.val (.int p0)] [(.int (f2 p0))])) st2 ?_
  refine OEnd.go (T' := T2) (g' := (mkF m 13 #[.val (.int p0)] [])) (fun t k => ?_) ?_
  · show Steps p.tables e below (T2.setTop (mkF m 10 #[.val (.int p0)] [(.int (f2 p0))])) t
    refine XS.ifNo X2.here hx rfl (hb hby d1_10) rfl ((if0 _ _).trans (feq ((own_can hle))).1) ?_
    show Steps p.tables e below (T2.setTop (mkF m 13 #[.val (.int p0)] [])) t
    exact k
  obtain ⟨T3, h3, X3, e3, E3, A3, D3, -, st3⟩ := newO X2 hx hZ hown (hw _ (List.mem_of_getElem? (i := 12) rfl)) (hw _ (List.mem_of_getElem? (i := 13) rfl)) (hw _ (List.mem_of_getElem? (i := 5) rfl)) e2 (g := (mkF m 13 #[.val (.int p0)] [])) rfl (hb hby d1_13) (by decide) (by decide)
  obtain ⟨b1_13, g3⟩ : ∃ z, z = h0.size := ⟨_, rfl⟩
  rw [← g3] at A3 D3 st3
  have gle_b1_13 : n0 ≤ b1_13 := Nat.le_trans Z0 (Nat.le_of_eq g3.symm)
  have sz_b1_13 : h0.size ≤ b1_13 := Nat.le_trans K0.1 (Nat.le_of_eq g3.symm)
  have fc4 : Sta Z h3 "java/lang/String" "COMPACT_STRINGS" "Z" (.int w0) := (S0.ext E3)
  have Z3 : n0 ≤ h3.size := Nat.le_trans Z0 E3.1
  have K3 : Keep h0 h3 [] := K0.ext E3
  have fc5 : Fld Z h3 b1_13 "java/lang/String" "value" "[B" .null := D3 (Or.inr (hw _ (List.mem_of_getElem? (i := 26) rfl))) (ty := (.array .byte)) (by decide)
  have fc6 : Fld Z h3 b1_13 "java/lang/String" "coder" "B" (.int (0 : Int32)) := D3 (Or.inr (hw _ (List.mem_of_getElem? (i := 28) rfl))) (ty := .byte) (by decide)
  refine OEnd.go (g' := (mkF m 16 #[.val (.int p0)] [(.ref b1_13)])) st3 ?_
  refine OEnd.go (T' := T3) (g' := (mkF m 18 #[.val (.int p0)] [(.int p0), (.ref b1_13), (.ref b1_13)])) (fun t k => ?_) ?_
  · show Steps p.tables e below (T3.setTop (mkF m 16 #[.val (.int p0)] [(.ref b1_13)])) t
    refine XS.dup X3.here hx rfl (hb hby d1_16) rfl rfl ?_
    show Steps p.tables e below (T3.setTop (mkF m 17 #[.val (.int p0)] [(.ref b1_13), (.ref b1_13)])) t
    refine XS.iloadN X3.here hx rfl (hb hby d1_17) rfl ?_
    show Steps p.tables e below (T3.setTop (mkF m 18 #[.val (.int p0)] [(.int p0), (.ref b1_13), (.ref b1_13)])) t
    exact k
  obtain ⟨_, _, ⟨T7, L7, k7, n7⟩, -, X7, ⟨Lc7, hQ7, l7, y7, z7⟩, st7⟩ := Jvm.LawKit.callS X3 hx (y := (⟨"java/lang/StringLatin1", "toBytes", "(C)[B"⟩ : MethodName)) hown (mvT hZ (hw _ (List.mem_of_getElem? (i := 14) rfl))) (mvT hZ (hw _ (List.mem_of_getElem? (i := 15) rfl))) (mvT hZ (hw _ (List.mem_of_getElem? (i := 10) rfl))) (mvT hZ (hw _ (List.mem_of_getElem? (i := 16) rfl))) (by decide) (backOf (W := 2) (rm3 l Z aZ hw [] p0 h3 n0 Z3 ) hZ (hw _ (List.mem_of_getElem? (i := 16) rfl)) (hw _ (List.mem_of_getElem? (i := 10) rfl)) (by decide) (by decide)) (g := (mkF m 18 #[.val (.int p0)] [(.int p0), (.ref b1_13), (.ref b1_13)])) rfl (by rw [hml]; rfl) (argsL := [(.int p0)]) (rest := [(.ref b1_13), (.ref b1_13)]) (lenOf pd__C__B rfl) rfl (by show 2 * 0 + _ ≤ _; exact Nat.le_of_eq rfl) (hb hby d1_18) (fun _ _ => ⟨rfl, e3, (by decide : 1 + 1 ≤ _), (by decide : 4 + 1 ≤ _)⟩)
  dsimp only [Pt.U, Pt.locs, Pt.cells, Pt.slots] at X7 l7 y7 z7 st7 hQ7
  subst l7 y7 z7
  obtain ⟨r1_18, rfl, gle_r1_18, sz_r1_18', N7q, u7_0⟩ := hQ7
  have ne_b1_13_r1_18 : b1_13 ≠ r1_18 := Nat.ne_of_lt (Nat.lt_of_lt_of_le A3.lt sz_r1_18')
  have sz_r1_18 : h0.size ≤ r1_18 := Nat.le_trans K3.1 sz_r1_18'
  have N7 := Fr.app N2 N7q
  have Z7 : n0 ≤ T7.heap.size := Nat.le_trans Z3 u7_0.1
  have K7 : Keep h0 T7.heap [] := K3.trans u7_0 all0
  have fc8 : Exa Z T7.heap b1_13 "java/lang/String" := (A3.keep u7_0)
  have fc9 : Fld Z T7.heap b1_13 "java/lang/String" "value" "[B" .null := (fc5.keep u7_0 nin0)
  have fc10 : Fld Z T7.heap b1_13 "java/lang/String" "coder" "B" (.int (0 : Int32)) := (fc6.keep u7_0 nin0)
  refine OEnd.go (g' := (mkF m 21 #[.val (.int p0)] [(.ref r1_18), (.ref b1_13), (.ref b1_13)])) st7 ?_
  refine OEnd.go (T' := T7) (g' := (mkF m 22 #[.val (.int p0)] [(.int (0 : Int32)), (.ref r1_18), (.ref b1_13), (.ref b1_13)])) (fun t k => ?_) ?_
  · show Steps p.tables e below (T7.setTop (mkF m 21 #[.val (.int p0)] [(.ref r1_18), (.ref b1_13), (.ref b1_13)])) t
    refine XS.iconst X7.here hx rfl (hb hby d1_21) ?_
    show Steps p.tables e below (T7.setTop (mkF m 22 #[.val (.int p0)] [(.int (0 : Int32)), (.ref r1_18), (.ref b1_13), (.ref b1_13)])) t
    exact k
  obtain ⟨_, _, ⟨T11, L11, k11, n11⟩, -, X11, ⟨Lc11, hQ11, l11, y11, z11⟩, st11⟩ := X7.specialBack hx (y := (⟨"java/lang/String", "<init>", "([BB)V"⟩ : MethodName)) rfl hown (mvT hZ (hw _ (List.mem_of_getElem? (i := 18) rfl))) (mvT hZ (hw _ (List.mem_of_getElem? (i := 19) rfl))) (mvT hZ (hw _ (List.mem_of_getElem? (i := 21) rfl))) (by decide) (backOf (W := 1) (rm4 l Z aZ hw [] b1_13 r1_18 (0 : Int32) T7.heap n0 Z7 fc9 fc10 fc8 gle_b1_13) hZ (hw _ (List.mem_of_getElem? (i := 21) rfl)) (hw _ (List.mem_of_getElem? (i := 5) rfl)) (by decide) (by decide)) (g := (mkF m 22 #[.val (.int p0)] [(.int (0 : Int32)), (.ref r1_18), (.ref b1_13), (.ref b1_13)])) rfl (by rw [hml]; rfl) (Steps.refl _) (a := b1_13) (argsL := [(.ref r1_18), (.int (0 : Int32))]) (rest := [(.ref b1_13)]) (lenOf pd___BB_V rfl) rfl (by show 2 * 0 + _ ≤ _; exact Nat.le_of_eq rfl) (hb hby d1_22) (fun _ _ => ⟨rfl, rfl, (by decide : 2 + 0 ≤ _), (by decide : 5 + 0 ≤ _)⟩)
  dsimp only [Pt.U, Pt.locs, Pt.cells, Pt.slots] at X11 l11 y11 z11 st11 hQ11
  subst l11 y11 z11
  obtain ⟨rfl, N11q, u11_0⟩ := hQ11
  have N11 := Fr.app N7 N11q
  have Z11 : n0 ≤ T11.heap.size := Nat.le_trans Z7 u11_0.1
  have K11 : Keep h0 T11.heap [] := K7.trans u11_0 (allS (Or.inr sz_b1_13) all0)
  have fc12 : Exa Z T11.heap b1_13 "java/lang/String" := (fc8.keep u11_0)
  refine OEnd.go (g' := (mkF m 25 #[.val (.int p0)] [(.ref b1_13)])) (fun _ k => st11.trans k) ?_
  exact OEnd.ref X11 hx Bd.returns rfl hlk (hb hby d1_25) ⟨b1_13, rfl, gle_b1_13, sz_b1_13, N11, (own_at rfl (P := fun h => Keep h0 h []) K11)⟩ (by decide) (by decide)
theorem d6_0 : decode prog_21_method_1_code 0 = .ok (.aload_n 0, 1) := by decide +kernel
theorem d6_1 : decode prog_21_method_1_code 1 = .ok (.invokespecial 1, 3) := by decide +kernel
theorem pd___V : parseMethodDescriptor "()V" = some ⟨[], none⟩ := by decide +kernel
theorem d6_4 : decode prog_21_method_1_code 4 = .ok (.aload_n 0, 1) := by decide +kernel
theorem d6_5 : decode prog_21_method_1_code 5 = .ok (.aload_n 1, 1) := by decide +kernel
theorem d6_6 : decode prog_21_method_1_code 6 = .ok (.putfield 7, 3) := by decide +kernel
theorem d6_9 : decode prog_21_method_1_code 9 = .ok (.aload_n 0, 1) := by decide +kernel
theorem d6_10 : decode prog_21_method_1_code 10 = .ok (.iload_n 2, 1) := by decide +kernel
theorem d6_11 : decode prog_21_method_1_code 11 = .ok (.putfield 13, 3) := by decide +kernel
theorem d6_14 : decode prog_21_method_1_code 14 = .ok (.return_, 1) := by decide +kernel
theorem pn_com_example_xixi_xixi_consumer_TopicQueue : plainName "com/example/xixi/xixi/consumer/TopicQueue" = true := by first | (simp [plainName, overriddenIn]; done) | decide +kernel
theorem ef_6 (m : MethodId) (x0 : Addr) (x1 : Addr) (x2 : Int32) : entryFrame m #[(.ref x0), (.ref x1), (.int x2)] 3 = mkF m 0 #[.val (.ref x0), .val (.ref x1), .val (.int x2)] [] := by first | (simp [entryFrame, mkF, argsToLocals, Value.category]; done) | rfl
def Q6 (Z : State) (a0 : Addr) (a1 : Addr) (p2 : Int32) (h0 : Heap) (n0 : Nat) (v : Option Value) (h : Heap) (L : List Loc) : Prop := v = none ∧ Fr n0 L ∧ Keep h0 h [a0]
set_option maxRecDepth 65536 in
set_option maxHeartbeats 40000000 in
theorem rm6 (l : Launch) (Z : State) (aZ : Array Value) (hw : ∀ d ∈ tables_1, d.before aZ Z = true) (ws : List Jvm.Cond) (a0 : Addr) (a1 : Addr) (p2 : Int32) (h0 : Heap) (n0 : Nat) (Z0 : n0 ≤ h0.size) (Ft : Fld Z h0 a0 "com/example/xixi/xixi/consumer/TopicQueue" "topic" "Ljava/lang/String;" .null) (Fq : Fld Z h0 a0 "com/example/xixi/xixi/consumer/TopicQueue" "queueId" "I" (.int (0 : Int32))) (E0 : Exa Z h0 a0 "com/example/xixi/xixi/consumer/TopicQueue") (g0 : n0 ≤ a0) :
    MetFree l (⟨"com/example/xixi/xixi/consumer/TopicQueue", "<init>", "(Ljava/lang/String;I)V"⟩ : MethodName) (head1 (Jvm.Cond.code (⟨"com/example/xixi/xixi/consumer/TopicQueue", "<init>", "(Ljava/lang/String;I)V"⟩ : MethodName) prog_21_method_1_code 3 none :: ws) ({ frames := 2, cells := 0, slots := 0, locals := 24 } : Room)) (fun a U => a = #[(.ref a0), (.ref a1), (.int p2)] ∧ Z.Warmed39 U.vm ∧ U.heap = h0) (fun _ _ _ _ _ => True) (fun _ U o U' => ∃ v L, o = .returned v ∧ Q6 Z a0 a1 p2 h0 n0 v U'.heap L ∧ FrameEnd U o U' L ({ frames := 2, cells := 0, slots := 0, locals := 24 } : Room).cells ({ frames := 2, cells := 0, slots := 0, locals := 24 } : Room).slots) := by
  refine MetFree.of_bodySF (plainFor_of_name pn_com_example_xixi_xixi_consumer_TopicQueue) hisR ?_
  intro p e s m args below meth c s₁ Bd hml0 hP hK
  obtain ⟨rfl, hZ, hh⟩ := hP
  have hx := Bd.exec
  have hby := Bd.bytes
  have hlk : meth.locks = false := BodyLoose.notSynchronized Bd
  have hml : c.maxLocals = 3 := hml0
  have hown : s.vm.findClass "com/example/xixi/xixi/consumer/TopicQueue" = some m.cls := findClass_of_methodNamed Bd.named
  have hnm := (name_of_methodNamed Bd.named Bd.method).1
  have X0 : Stand p l e ({ frames := 2, cells := 0, slots := 0, locals := 24 } : Room) s m #[(.ref a0), (.ref a1), (.int p2)] below meth c s₁ [] 0 0 := Stand.of_body Bd
  have e0 : s₁.heap = h0 := by rw [← hh, Bd.state]; rfl
  have N0 := Fr.nil n0
  have K0 : Keep h0 h0 [a0] := Keep.refl _ _
  show OEnd p e below s s₁ (entryFrame m #[(.ref a0), (.ref a1), (.int p2)] 3) (Q6 Z a0 a1 p2 h0 n0) ({ frames := 2, cells := 0, slots := 0, locals := 24 } : Room).cells ({ frames := 2, cells := 0, slots := 0, locals := 24 } : Room).slots
  refine OEnd.go (g' := (mkF m 0 #[.val (.ref a0), .val (.ref a1), .val (.int p2)] [])) (fun _ k => castTop (ef_6 m a0 a1 p2) k) ?_
  refine OEnd.go (T' := s₁) (g' := (mkF m 1 #[.val (.ref a0), .val (.ref a1), .val (.int p2)] [(.ref a0)])) (fun t k => ?_) ?_
  · show Steps p.tables e below (s₁.setTop (mkF m 0 #[.val (.ref a0), .val (.ref a1), .val (.int p2)] [])) t
    refine XS.aloadN X0.here hx rfl (hb hby d6_0) rfl rfl ?_
    show Steps p.tables e below (s₁.setTop (mkF m 1 #[.val (.ref a0), .val (.ref a1), .val (.int p2)] [(.ref a0)])) t
    exact k
  obtain ⟨_, _, ⟨T1, L1, k1, n1⟩, -, X1, ⟨Lc1, hQ1, l1, y1, z1⟩, st1⟩ := X0.specialBack hx (y := (⟨"java/lang/Record", "<init>", "()V"⟩ : MethodName)) rfl hown (mvT hZ (hw _ (List.mem_of_getElem? (i := 32) rfl))) (mvT hZ (hw _ (List.mem_of_getElem? (i := 33) rfl))) (mvT hZ (hw _ (List.mem_of_getElem? (i := 36) rfl))) (by decide) (backOf (W := 0) (rm7 l Z aZ hw [] a0 h0 n0 Z0 ) hZ (hw _ (List.mem_of_getElem? (i := 36) rfl)) (hw _ (List.mem_of_getElem? (i := 35) rfl)) (by decide) (by decide)) (g := (mkF m 1 #[.val (.ref a0), .val (.ref a1), .val (.int p2)] [(.ref a0)])) rfl (by rw [hml]; rfl) (Steps.refl _) (a := a0) (argsL := []) (rest := []) (lenOf pd___V rfl) rfl (by show 2 * 0 + _ ≤ _; exact Nat.le_of_eq rfl) (hb hby d6_1) (fun _ _ => ⟨rfl, e0, (by decide : 0 + 0 ≤ _), (by decide : 0 + 0 ≤ _)⟩)
  dsimp only [Pt.U, Pt.locs, Pt.cells, Pt.slots] at X1 l1 y1 z1 st1 hQ1
  subst l1 y1 z1
  obtain ⟨rfl, N1q, e1⟩ := hQ1
  have N1 := Fr.app N0 N1q
  refine OEnd.go (g' := (mkF m 4 #[.val (.ref a0), .val (.ref a1), .val (.int p2)] [])) (fun _ k => st1.trans k) ?_
  refine OEnd.go (T' := T1) (g' := (mkF m 6 #[.val (.ref a0), .val (.ref a1), .val (.int p2)] [(.ref a1), (.ref a0)])) (fun t k => ?_) ?_
  · show Steps p.tables e below (T1.setTop (mkF m 4 #[.val (.ref a0), .val (.ref a1), .val (.int p2)] [])) t
    refine XS.aloadN X1.here hx rfl (hb hby d6_4) rfl rfl ?_
    show Steps p.tables e below (T1.setTop (mkF m 5 #[.val (.ref a0), .val (.ref a1), .val (.int p2)] [(.ref a0)])) t
    refine XS.aloadN X1.here hx rfl (hb hby d6_5) rfl rfl ?_
    show Steps p.tables e below (T1.setTop (mkF m 6 #[.val (.ref a0), .val (.ref a1), .val (.int p2)] [(.ref a1), (.ref a0)])) t
    exact k
  obtain ⟨T2, h2, X2, e2, W2, st2⟩ := putF X1 hx hZ hown (host := "") (Or.inl (hw _ (List.mem_of_getElem? (i := 38) rfl))) Via.refl e1 Ft E0 (Or.inr ⟨(hw _ (List.mem_of_getElem? (i := 39) rfl)), rfl, hnm⟩) (hw _ (List.mem_of_getElem? (i := 1) rfl)) (ty := (.object "java/lang/String")) (by decide) rfl rfl (g := (mkF m 6 #[.val (.ref a0), .val (.ref a1), .val (.int p2)] [(.ref a1), (.ref a0)])) rfl rfl (hb hby d6_6)
  have N2 := Fr.snoc X2 N1 g0
  have Z2 : n0 ≤ h2.size := Nat.le_trans Z0 (Keep.of_wr W2).1
  have K2 : Keep h0 h2 [a0] := K0.wr W2 (Or.inl (List.mem_of_getElem? (i := 0) rfl))
  have fc3 : Fld Z h2 a0 "com/example/xixi/xixi/consumer/TopicQueue" "topic" "Ljava/lang/String;" (.ref a1) := (Ft.same W2)
  have fc4 : Fld Z h2 a0 "com/example/xixi/xixi/consumer/TopicQueue" "queueId" "I" (.int (0 : Int32)) := (Fq.other W2 (Or.inr (slot_ne (Or.inr (hw _ (List.mem_of_getElem? (i := 41) rfl))) (Or.inr (hw _ (List.mem_of_getElem? (i := 39) rfl))) (by decide) (t := .int) (t' := (.object "java/lang/String")) (by decide) (by decide))))
  have fc5 : Exa Z h2 a0 "com/example/xixi/xixi/consumer/TopicQueue" := (E0.wr W2)
  refine OEnd.go (g' := (mkF m 9 #[.val (.ref a0), .val (.ref a1), .val (.int p2)] [])) st2 ?_
  refine OEnd.go (T' := T2) (g' := (mkF m 11 #[.val (.ref a0), .val (.ref a1), .val (.int p2)] [(.int p2), (.ref a0)])) (fun t k => ?_) ?_
  · show Steps p.tables e below (T2.setTop (mkF m 9 #[.val (.ref a0), .val (.ref a1), .val (.int p2)] [])) t
    refine XS.aloadN X2.here hx rfl (hb hby d6_9) rfl rfl ?_
    show Steps p.tables e below (T2.setTop (mkF m 10 #[.val (.ref a0), .val (.ref a1), .val (.int p2)] [(.ref a0)])) t
    refine XS.iloadN X2.here hx rfl (hb hby d6_10) rfl ?_
    show Steps p.tables e below (T2.setTop (mkF m 11 #[.val (.ref a0), .val (.ref a1), .val (.int p2)] [(.int p2), (.ref a0)])) t
    exact k
  obtain ⟨T6, h6, X6, e6, W6, st6⟩ := putF X2 hx hZ hown (host := "") (Or.inl (hw _ (List.mem_of_getElem? (i := 40) rfl))) Via.refl e2 fc4 fc5 (Or.inr ⟨(hw _ (List.mem_of_getElem? (i := 41) rfl)), rfl, hnm⟩) (hw _ (List.mem_of_getElem? (i := 1) rfl)) (ty := .int) (by decide) rfl rfl (g := (mkF m 11 #[.val (.ref a0), .val (.ref a1), .val (.int p2)] [(.int p2), (.ref a0)])) rfl rfl (hb hby d6_11)
  have N6 := Fr.snoc X6 N2 g0
  have Z6 : n0 ≤ h6.size := Nat.le_trans Z2 (Keep.of_wr W6).1
  have K6 : Keep h0 h6 [a0] := K2.wr W6 (Or.inl (List.mem_of_getElem? (i := 0) rfl))
  have fc7 : Fld Z h6 a0 "com/example/xixi/xixi/consumer/TopicQueue" "topic" "Ljava/lang/String;" (.ref a1) := (fc3.other W6 (Or.inr (slot_ne (Or.inr (hw _ (List.mem_of_getElem? (i := 39) rfl))) (Or.inr (hw _ (List.mem_of_getElem? (i := 41) rfl))) (by decide) (t := (.object "java/lang/String")) (t' := .int) (by decide) (by decide))))
  have fc8 : Fld Z h6 a0 "com/example/xixi/xixi/consumer/TopicQueue" "queueId" "I" (.int p2) := (fc4.same W6)
  have fc9 : Exa Z h6 a0 "com/example/xixi/xixi/consumer/TopicQueue" := (fc5.wr W6)
  refine OEnd.go (g' := (mkF m 14 #[.val (.ref a0), .val (.ref a1), .val (.int p2)] [])) st6 ?_
  exact OEnd.void X6 hx Bd.returns hlk (hb hby d6_14) ⟨rfl, N6, (own_at e6 (P := fun h => Keep h0 h [a0]) K6)⟩ (by decide) (by decide)
theorem d11_0 : decode jdk_2729_method_1_code 0 = .ok (.aload_n 0, 1) := by decide +kernel
theorem d11_1 : decode jdk_2729_method_1_code 1 = .ok (.invokespecial 1, 3) := by decide +kernel
theorem d11_4 : decode jdk_2729_method_1_code 4 = .ok (.aload_n 0, 1) := by decide +kernel
theorem d11_5 : decode jdk_2729_method_1_code 5 = .ok (.iconst 0, 1) := by decide +kernel
theorem d11_6 : decode jdk_2729_method_1_code 6 = .ok (.putfield 7, 3) := by decide +kernel
theorem d11_9 : decode jdk_2729_method_1_code 9 = .ok (.aload_n 0, 1) := by decide +kernel
theorem d11_10 : decode jdk_2729_method_1_code 10 = .ok (.iconst 0, 1) := by decide +kernel
theorem d11_11 : decode jdk_2729_method_1_code 11 = .ok (.putfield 13, 3) := by decide +kernel
theorem d11_14 : decode jdk_2729_method_1_code 14 = .ok (.aload_n 0, 1) := by decide +kernel
theorem d11_15 : decode jdk_2729_method_1_code 15 = .ok (.aconst_null, 1) := by decide +kernel
theorem d11_16 : decode jdk_2729_method_1_code 16 = .ok (.putfield 16, 3) := by decide +kernel
theorem d11_19 : decode jdk_2729_method_1_code 19 = .ok (.return_, 1) := by decide +kernel
theorem pn_java_util_TreeMap : plainName "java/util/TreeMap" = true := by first | (simp [plainName, overriddenIn]; done) | decide +kernel
theorem ef_11 (m : MethodId) (x0 : Addr) : entryFrame m #[(.ref x0)] 1 = mkF m 0 #[.val (.ref x0)] [] := by first | (simp [entryFrame, mkF, argsToLocals, Value.category]; done) | rfl
def Q11 (Z : State) (a0 : Addr) (h0 : Heap) (n0 : Nat) (v : Option Value) (h : Heap) (L : List Loc) : Prop := v = none ∧ Fr n0 L ∧ Keep h0 h [a0]
set_option maxRecDepth 65536 in
set_option maxHeartbeats 40000000 in
theorem rm11 (l : Launch) (Z : State) (aZ : Array Value) (hw : ∀ d ∈ tables_1, d.before aZ Z = true) (ws : List Jvm.Cond) (a0 : Addr) (h0 : Heap) (n0 : Nat) (Z0 : n0 ≤ h0.size) (Fs : Fld Z h0 a0 "java/util/TreeMap" "size" "I" (.int (0 : Int32))) (Fm : Fld Z h0 a0 "java/util/TreeMap" "modCount" "I" (.int (0 : Int32))) (Fc : Fld Z h0 a0 "java/util/TreeMap" "comparator" "Ljava/util/Comparator;" .null) (E0 : Exa Z h0 a0 "java/util/TreeMap") (g0 : n0 ≤ a0) :
    MetFree l (⟨"java/util/TreeMap", "<init>", "()V"⟩ : MethodName) (head1 (Jvm.Cond.code (⟨"java/util/TreeMap", "<init>", "()V"⟩ : MethodName) jdk_2729_method_1_code 1 none :: ws) ({ frames := 2, cells := 0, slots := 0, locals := 24 } : Room)) (fun a U => a = #[(.ref a0)] ∧ Z.Warmed39 U.vm ∧ U.heap = h0) (fun _ _ _ _ _ => True) (fun _ U o U' => ∃ v L, o = .returned v ∧ Q11 Z a0 h0 n0 v U'.heap L ∧ FrameEnd U o U' L ({ frames := 2, cells := 0, slots := 0, locals := 24 } : Room).cells ({ frames := 2, cells := 0, slots := 0, locals := 24 } : Room).slots) := by
  refine MetFree.of_bodySF (plainFor_of_name pn_java_util_TreeMap) hisR ?_
  intro p e s m args below meth c s₁ Bd hml0 hP hK
  obtain ⟨rfl, hZ, hh⟩ := hP
  have hx := Bd.exec
  have hby := Bd.bytes
  have hlk : meth.locks = false := BodyLoose.notSynchronized Bd
  have hml : c.maxLocals = 1 := hml0
  have hown : s.vm.findClass "java/util/TreeMap" = some m.cls := findClass_of_methodNamed Bd.named
  have hnm := (name_of_methodNamed Bd.named Bd.method).1
  have X0 : Stand p l e ({ frames := 2, cells := 0, slots := 0, locals := 24 } : Room) s m #[(.ref a0)] below meth c s₁ [] 0 0 := Stand.of_body Bd
  have e0 : s₁.heap = h0 := by rw [← hh, Bd.state]; rfl
  have N0 := Fr.nil n0
  have K0 : Keep h0 h0 [a0] := Keep.refl _ _
  show OEnd p e below s s₁ (entryFrame m #[(.ref a0)] 1) (Q11 Z a0 h0 n0) ({ frames := 2, cells := 0, slots := 0, locals := 24 } : Room).cells ({ frames := 2, cells := 0, slots := 0, locals := 24 } : Room).slots
  refine OEnd.go (g' := (mkF m 0 #[.val (.ref a0)] [])) (fun _ k => castTop (ef_11 m a0) k) ?_
  refine OEnd.go (T' := s₁) (g' := (mkF m 1 #[.val (.ref a0)] [(.ref a0)])) (fun t k => ?_) ?_
  · show Steps p.tables e below (s₁.setTop (mkF m 0 #[.val (.ref a0)] [])) t
    refine XS.aloadN X0.here hx rfl (hb hby d11_0) rfl rfl ?_
    show Steps p.tables e below (s₁.setTop (mkF m 1 #[.val (.ref a0)] [(.ref a0)])) t
    exact k
  obtain ⟨_, _, ⟨T1, L1, k1, n1⟩, -, X1, ⟨Lc1, hQ1, l1, y1, z1⟩, st1⟩ := X0.specialBack hx (y := (⟨"java/util/AbstractMap", "<init>", "()V"⟩ : MethodName)) rfl hown (mvT hZ (hw _ (List.mem_of_getElem? (i := 73) rfl))) (mvT hZ (hw _ (List.mem_of_getElem? (i := 74) rfl))) (mvT hZ (hw _ (List.mem_of_getElem? (i := 78) rfl))) (by decide) (backOf (W := 0) (rm12 l Z aZ hw [] a0 h0 n0 Z0 ) hZ (hw _ (List.mem_of_getElem? (i := 78) rfl)) (hw _ (List.mem_of_getElem? (i := 77) rfl)) (by decide) (by decide)) (g := (mkF m 1 #[.val (.ref a0)] [(.ref a0)])) rfl (by rw [hml]; rfl) (Steps.refl _) (a := a0) (argsL := []) (rest := []) (lenOf pd___V rfl) rfl (by show 2 * 0 + _ ≤ _; exact Nat.le_of_eq rfl) (hb hby d11_1) (fun _ _ => ⟨rfl, e0, (by decide : 0 + 0 ≤ _), (by decide : 0 + 0 ≤ _)⟩)
  dsimp only [Pt.U, Pt.locs, Pt.cells, Pt.slots] at X1 l1 y1 z1 st1 hQ1
  subst l1 y1 z1
  obtain ⟨rfl, N1q, e1⟩ := hQ1
  have N1 := Fr.app N0 N1q
  refine OEnd.go (g' := (mkF m 4 #[.val (.ref a0)] [])) (fun _ k => st1.trans k) ?_
  refine OEnd.go (T' := T1) (g' := (mkF m 6 #[.val (.ref a0)] [(.int (0 : Int32)), (.ref a0)])) (fun t k => ?_) ?_
  · show Steps p.tables e below (T1.setTop (mkF m 4 #[.val (.ref a0)] [])) t
    refine XS.aloadN X1.here hx rfl (hb hby d11_4) rfl rfl ?_
    show Steps p.tables e below (T1.setTop (mkF m 5 #[.val (.ref a0)] [(.ref a0)])) t
    refine XS.iconst X1.here hx rfl (hb hby d11_5) ?_
    show Steps p.tables e below (T1.setTop (mkF m 6 #[.val (.ref a0)] [(.int (0 : Int32)), (.ref a0)])) t
    exact k
  obtain ⟨T2, h2, X2, e2, W2, st2⟩ := putF X1 hx hZ hown (host := "") (Or.inl (hw _ (List.mem_of_getElem? (i := 80) rfl))) Via.refl e1 Fs E0 (Or.inl (hw _ (List.mem_of_getElem? (i := 81) rfl))) (hw _ (List.mem_of_getElem? (i := 68) rfl)) (ty := .int) (by decide) rfl rfl (g := (mkF m 6 #[.val (.ref a0)] [(.int (0 : Int32)), (.ref a0)])) rfl rfl (hb hby d11_6)
  have N2 := Fr.snoc X2 N1 g0
  have Z2 : n0 ≤ h2.size := Nat.le_trans Z0 (Keep.of_wr W2).1
  have K2 : Keep h0 h2 [a0] := K0.wr W2 (Or.inl (List.mem_of_getElem? (i := 0) rfl))
  have fc3 : Fld Z h2 a0 "java/util/TreeMap" "size" "I" (.int (0 : Int32)) := (Fs.same W2)
  have fc4 : Fld Z h2 a0 "java/util/TreeMap" "modCount" "I" (.int (0 : Int32)) := (Fm.other W2 (Or.inr (slot_ne (Or.inl (hw _ (List.mem_of_getElem? (i := 83) rfl))) (Or.inl (hw _ (List.mem_of_getElem? (i := 81) rfl))) (by decide) (t := .int) (t' := .int) (by decide) (by decide))))
  have fc5 : Fld Z h2 a0 "java/util/TreeMap" "comparator" "Ljava/util/Comparator;" .null := (Fc.other W2 (Or.inr (slot_ne (Or.inr (hw _ (List.mem_of_getElem? (i := 85) rfl))) (Or.inl (hw _ (List.mem_of_getElem? (i := 81) rfl))) (by decide) (t := (.object "java/util/Comparator")) (t' := .int) (by decide) (by decide))))
  have fc6 : Exa Z h2 a0 "java/util/TreeMap" := (E0.wr W2)
  refine OEnd.go (g' := (mkF m 9 #[.val (.ref a0)] [])) st2 ?_
  refine OEnd.go (T' := T2) (g' := (mkF m 11 #[.val (.ref a0)] [(.int (0 : Int32)), (.ref a0)])) (fun t k => ?_) ?_
  · show Steps p.tables e below (T2.setTop (mkF m 9 #[.val (.ref a0)] [])) t
    refine XS.aloadN X2.here hx rfl (hb hby d11_9) rfl rfl ?_
    show Steps p.tables e below (T2.setTop (mkF m 10 #[.val (.ref a0)] [(.ref a0)])) t
    refine XS.iconst X2.here hx rfl (hb hby d11_10) ?_
    show Steps p.tables e below (T2.setTop (mkF m 11 #[.val (.ref a0)] [(.int (0 : Int32)), (.ref a0)])) t
    exact k
  obtain ⟨T7, h7, X7, e7, W7, st7⟩ := putF X2 hx hZ hown (host := "") (Or.inl (hw _ (List.mem_of_getElem? (i := 82) rfl))) Via.refl e2 fc4 fc6 (Or.inl (hw _ (List.mem_of_getElem? (i := 83) rfl))) (hw _ (List.mem_of_getElem? (i := 68) rfl)) (ty := .int) (by decide) rfl rfl (g := (mkF m 11 #[.val (.ref a0)] [(.int (0 : Int32)), (.ref a0)])) rfl rfl (hb hby d11_11)
  have N7 := Fr.snoc X7 N2 g0
  have Z7 : n0 ≤ h7.size := Nat.le_trans Z2 (Keep.of_wr W7).1
  have K7 : Keep h0 h7 [a0] := K2.wr W7 (Or.inl (List.mem_of_getElem? (i := 0) rfl))
  have fc8 : Fld Z h7 a0 "java/util/TreeMap" "size" "I" (.int (0 : Int32)) := (fc3.other W7 (Or.inr (slot_ne (Or.inl (hw _ (List.mem_of_getElem? (i := 81) rfl))) (Or.inl (hw _ (List.mem_of_getElem? (i := 83) rfl))) (by decide) (t := .int) (t' := .int) (by decide) (by decide))))
  have fc9 : Fld Z h7 a0 "java/util/TreeMap" "modCount" "I" (.int (0 : Int32)) := (fc4.same W7)
  have fc10 : Fld Z h7 a0 "java/util/TreeMap" "comparator" "Ljava/util/Comparator;" .null := (fc5.other W7 (Or.inr (slot_ne (Or.inr (hw _ (List.mem_of_getElem? (i := 85) rfl))) (Or.inl (hw _ (List.mem_of_getElem? (i := 83) rfl))) (by decide) (t := (.object "java/util/Comparator")) (t' := .int) (by decide) (by decide))))
  have fc11 : Exa Z h7 a0 "java/util/TreeMap" := (fc6.wr W7)
  refine OEnd.go (g' := (mkF m 14 #[.val (.ref a0)] [])) st7 ?_
  refine OEnd.go (T' := T7) (g' := (mkF m 16 #[.val (.ref a0)] [.null, (.ref a0)])) (fun t k => ?_) ?_
  · show Steps p.tables e below (T7.setTop (mkF m 14 #[.val (.ref a0)] [])) t
    refine XS.aloadN X7.here hx rfl (hb hby d11_14) rfl rfl ?_
    show Steps p.tables e below (T7.setTop (mkF m 15 #[.val (.ref a0)] [(.ref a0)])) t
    refine XS.aconstNull X7.here hx rfl (hb hby d11_15) ?_
    show Steps p.tables e below (T7.setTop (mkF m 16 #[.val (.ref a0)] [.null, (.ref a0)])) t
    exact k
  obtain ⟨T12, h12, X12, e12, W12, st12⟩ := putF X7 hx hZ hown (host := "") (Or.inl (hw _ (List.mem_of_getElem? (i := 84) rfl))) Via.refl e7 fc10 fc11 (Or.inr ⟨(hw _ (List.mem_of_getElem? (i := 85) rfl)), rfl, hnm⟩) (hw _ (List.mem_of_getElem? (i := 68) rfl)) (ty := (.object "java/util/Comparator")) (by decide) rfl rfl (g := (mkF m 16 #[.val (.ref a0)] [.null, (.ref a0)])) rfl rfl (hb hby d11_16)
  have N12 := Fr.snoc X12 N7 g0
  have Z12 : n0 ≤ h12.size := Nat.le_trans Z7 (Keep.of_wr W12).1
  have K12 : Keep h0 h12 [a0] := K7.wr W12 (Or.inl (List.mem_of_getElem? (i := 0) rfl))
  have fc13 : Fld Z h12 a0 "java/util/TreeMap" "size" "I" (.int (0 : Int32)) := (fc8.other W12 (Or.inr (slot_ne (Or.inl (hw _ (List.mem_of_getElem? (i := 81) rfl))) (Or.inr (hw _ (List.mem_of_getElem? (i := 85) rfl))) (by decide) (t := .int) (t' := (.object "java/util/Comparator")) (by decide) (by decide))))
  have fc14 : Fld Z h12 a0 "java/util/TreeMap" "modCount" "I" (.int (0 : Int32)) := (fc9.other W12 (Or.inr (slot_ne (Or.inl (hw _ (List.mem_of_getElem? (i := 83) rfl))) (Or.inr (hw _ (List.mem_of_getElem? (i := 85) rfl))) (by decide) (t := .int) (t' := (.object "java/util/Comparator")) (by decide) (by decide))))
  have fc15 : Fld Z h12 a0 "java/util/TreeMap" "comparator" "Ljava/util/Comparator;" .null := (fc10.same W12)
  have fc16 : Exa Z h12 a0 "java/util/TreeMap" := (fc11.wr W12)
  refine OEnd.go (g' := (mkF m 19 #[.val (.ref a0)] [])) st12 ?_
  exact OEnd.void X12 hx Bd.returns hlk (hb hby d11_19) ⟨rfl, N12, (own_at e12 (P := fun h => Keep h0 h [a0]) K12)⟩ (by decide) (by decide)
theorem d10_0 : decode prog_20_method_1_code 0 = .ok (.aload_n 0, 1) := by decide +kernel
theorem d10_1 : decode prog_20_method_1_code 1 = .ok (.invokespecial 1, 3) := by decide +kernel
theorem d10_4 : decode prog_20_method_1_code 4 = .ok (.aload_n 0, 1) := by decide +kernel
theorem d10_5 : decode prog_20_method_1_code 5 = .ok (.new 7, 3) := by decide +kernel
theorem d10_8 : decode prog_20_method_1_code 8 = .ok (.dup, 1) := by decide +kernel
theorem d10_9 : decode prog_20_method_1_code 9 = .ok (.invokespecial 9, 3) := by decide +kernel
theorem d10_12 : decode prog_20_method_1_code 12 = .ok (.putfield 10, 3) := by decide +kernel
theorem d10_15 : decode prog_20_method_1_code 15 = .ok (.aload_n 0, 1) := by decide +kernel
theorem d10_16 : decode prog_20_method_1_code 16 = .ok (.ldc2_w 16, 3) := by decide +kernel
theorem d10_19 : decode prog_20_method_1_code 19 = .ok (.putfield 18, 3) := by decide +kernel
theorem d10_22 : decode prog_20_method_1_code 22 = .ok (.aload_n 0, 1) := by decide +kernel
theorem d10_23 : decode prog_20_method_1_code 23 = .ok (.lload_n 1, 1) := by decide +kernel
theorem d10_24 : decode prog_20_method_1_code 24 = .ok (.putfield 22, 3) := by decide +kernel
theorem d10_27 : decode prog_20_method_1_code 27 = .ok (.aload_n 0, 1) := by decide +kernel
theorem d10_28 : decode prog_20_method_1_code 28 = .ok (.lload_n 1, 1) := by decide +kernel
theorem d10_29 : decode prog_20_method_1_code 29 = .ok (.putfield 25, 3) := by decide +kernel
theorem d10_32 : decode prog_20_method_1_code 32 = .ok (.return_, 1) := by decide +kernel
theorem pn_com_example_xixi_xixi_consumer_QueueCache : plainName "com/example/xixi/xixi/consumer/QueueCache" = true := by first | (simp [plainName, overriddenIn]; done) | decide +kernel
theorem ef_10 (m : MethodId) (x0 : Addr) (x1 : Int64) : entryFrame m #[(.ref x0), (.long x1)] 3 = mkF m 0 #[.val (.ref x0), .val (.long x1), .second] [] := by first | (simp [entryFrame, mkF, argsToLocals, Value.category]; done) | rfl
def Q10 (Z : State) (a0 : Addr) (q1 : Int64) (h0 : Heap) (n0 : Nat) (v : Option Value) (h : Heap) (L : List Loc) : Prop := v = none ∧ Fr n0 L ∧ Keep h0 h [a0]
set_option maxRecDepth 65536 in
set_option maxHeartbeats 40000000 in
theorem rm10 (l : Launch) (Z : State) (aZ : Array Value) (hw : ∀ d ∈ tables_1, d.before aZ Z = true) (ws : List Jvm.Cond) (a0 : Addr) (q1 : Int64) (h0 : Heap) (n0 : Nat) (Z0 : n0 ≤ h0.size) (Fm : Fld Z h0 a0 "com/example/xixi/xixi/consumer/QueueCache" "messages" "Ljava/util/NavigableMap;" .null) (Fl : Fld Z h0 a0 "com/example/xixi/xixi/consumer/QueueCache" "largestPulled" "J" (.long (0 : Int64))) (Fn : Fld Z h0 a0 "com/example/xixi/xixi/consumer/QueueCache" "nextOffset" "J" (.long (0 : Int64))) (Fp : Fld Z h0 a0 "com/example/xixi/xixi/consumer/QueueCache" "progress" "J" (.long (0 : Int64))) (E0 : Exa Z h0 a0 "com/example/xixi/xixi/consumer/QueueCache") (g0 : n0 ≤ a0) :
    MetFree l (⟨"com/example/xixi/xixi/consumer/QueueCache", "<init>", "(J)V"⟩ : MethodName) (head1 (Jvm.Cond.code (⟨"com/example/xixi/xixi/consumer/QueueCache", "<init>", "(J)V"⟩ : MethodName) prog_20_method_1_code 3 none :: ws) ({ frames := 3, cells := 1, slots := 9, locals := 38 } : Room)) (fun a U => a = #[(.ref a0), (.long q1)] ∧ Z.Warmed39 U.vm ∧ U.heap = h0) (fun _ _ _ _ _ => True) (fun _ U o U' => ∃ v L, o = .returned v ∧ Q10 Z a0 q1 h0 n0 v U'.heap L ∧ FrameEnd U o U' L ({ frames := 3, cells := 1, slots := 9, locals := 38 } : Room).cells ({ frames := 3, cells := 1, slots := 9, locals := 38 } : Room).slots) := by
  refine MetFree.of_bodySF (plainFor_of_name pn_com_example_xixi_xixi_consumer_QueueCache) hisR ?_
  intro p e s m args below meth c s₁ Bd hml0 hP hK
  obtain ⟨rfl, hZ, hh⟩ := hP
  have hx := Bd.exec
  have hby := Bd.bytes
  have hlk : meth.locks = false := BodyLoose.notSynchronized Bd
  have hml : c.maxLocals = 3 := hml0
  have hown : s.vm.findClass "com/example/xixi/xixi/consumer/QueueCache" = some m.cls := findClass_of_methodNamed Bd.named
  have hnm := (name_of_methodNamed Bd.named Bd.method).1
  have X0 : Stand p l e ({ frames := 3, cells := 1, slots := 9, locals := 38 } : Room) s m #[(.ref a0), (.long q1)] below meth c s₁ [] 0 0 := Stand.of_body Bd
  have e0 : s₁.heap = h0 := by rw [← hh, Bd.state]; rfl
  have N0 := Fr.nil n0
  have K0 : Keep h0 h0 [a0] := Keep.refl _ _
  show OEnd p e below s s₁ (entryFrame m #[(.ref a0), (.long q1)] 3) (Q10 Z a0 q1 h0 n0) ({ frames := 3, cells := 1, slots := 9, locals := 38 } : Room).cells ({ frames := 3, cells := 1, slots := 9, locals := 38 } : Room).slots
  refine OEnd.go (g' := (mkF m 0 #[.val (.ref a0), .val (.long q1), .second] [])) (fun _ k => castTop (ef_10 m a0 q1) k) ?_
  refine OEnd.go (T' := s₁) (g' := (mkF m 1 #[.val (.ref a0), .val (.long q1), .second] [(.ref a0)])) (fun t k => ?_) ?_
  · show Steps p.tables e below (s₁.setTop (mkF m 0 #[.val (.ref a0), .val (.long q1), .second] [])) t
    refine XS.aloadN X0.here hx rfl (hb hby d10_0) rfl rfl ?_
    show Steps p.tables e below (s₁.setTop (mkF m 1 #[.val (.ref a0), .val (.long q1), .second] [(.ref a0)])) t
    exact k
  obtain ⟨T1, X1, e1, st1⟩ := initO X0 hx hZ hown (hw _ (List.mem_of_getElem? (i := 66) rfl)) (hw _ (List.mem_of_getElem? (i := 23) rfl)) (hw _ (List.mem_of_getElem? (i := 24) rfl)) e0 (g := (mkF m 1 #[.val (.ref a0), .val (.long q1), .second] [(.ref a0)])) rfl (by rw [hml]; rfl) rfl (hb hby d10_1) (by decide) (W := 0) (by show 2 * 0 + _ ≤ _; exact Nat.le_of_eq rfl) (by decide)
  refine OEnd.go (g' := (mkF m 4 #[.val (.ref a0), .val (.long q1), .second] [])) st1 ?_
  refine OEnd.go (T' := T1) (g' := (mkF m 5 #[.val (.ref a0), .val (.long q1), .second] [(.ref a0)])) (fun t k => ?_) ?_
  · show Steps p.tables e below (T1.setTop (mkF m 4 #[.val (.ref a0), .val (.long q1), .second] [])) t
    refine XS.aloadN X1.here hx rfl (hb hby d10_4) rfl rfl ?_
    show Steps p.tables e below (T1.setTop (mkF m 5 #[.val (.ref a0), .val (.long q1), .second] [(.ref a0)])) t
    exact k
  obtain ⟨T2, h2, X2, e2, E2, A2, D2, -, st2⟩ := newO X1 hx hZ hown (hw _ (List.mem_of_getElem? (i := 67) rfl)) (hw _ (List.mem_of_getElem? (i := 68) rfl)) (hw _ (List.mem_of_getElem? (i := 69) rfl)) e1 (g := (mkF m 5 #[.val (.ref a0), .val (.long q1), .second] [(.ref a0)])) rfl (hb hby d10_5) (by decide) (by decide)
  obtain ⟨b10_5, g2⟩ : ∃ z, z = h0.size := ⟨_, rfl⟩
  rw [← g2] at A2 D2 st2
  have gle_b10_5 : n0 ≤ b10_5 := Nat.le_trans Z0 (Nat.le_of_eq g2.symm)
  have sz_b10_5 : h0.size ≤ b10_5 := Nat.le_trans K0.1 (Nat.le_of_eq g2.symm)
  have ne_a0_b10_5 : a0 ≠ b10_5 := Nat.ne_of_lt (Nat.lt_of_lt_of_le Fm.lt (Nat.le_of_eq g2.symm))
  have fc3 : Fld Z h2 a0 "com/example/xixi/xixi/consumer/QueueCache" "messages" "Ljava/util/NavigableMap;" .null := (Fm.ext E2)
  have fc4 : Fld Z h2 a0 "com/example/xixi/xixi/consumer/QueueCache" "largestPulled" "J" (.long (0 : Int64)) := (Fl.ext E2)
  have fc5 : Fld Z h2 a0 "com/example/xixi/xixi/consumer/QueueCache" "nextOffset" "J" (.long (0 : Int64)) := (Fn.ext E2)
  have fc6 : Fld Z h2 a0 "com/example/xixi/xixi/consumer/QueueCache" "progress" "J" (.long (0 : Int64)) := (Fp.ext E2)
  have fc7 : Exa Z h2 a0 "com/example/xixi/xixi/consumer/QueueCache" := (E0.ext E2)
  have Z2 : n0 ≤ h2.size := Nat.le_trans Z0 E2.1
  have K2 : Keep h0 h2 [a0] := K0.ext E2
  have fc8 : Fld Z h2 b10_5 "java/util/TreeMap" "size" "I" (.int (0 : Int32)) := D2 (Or.inl (hw _ (List.mem_of_getElem? (i := 81) rfl))) (ty := .int) (by decide)
  have fc9 : Fld Z h2 b10_5 "java/util/TreeMap" "modCount" "I" (.int (0 : Int32)) := D2 (Or.inl (hw _ (List.mem_of_getElem? (i := 83) rfl))) (ty := .int) (by decide)
  have fc10 : Fld Z h2 b10_5 "java/util/TreeMap" "comparator" "Ljava/util/Comparator;" .null := D2 (Or.inr (hw _ (List.mem_of_getElem? (i := 85) rfl))) (ty := (.object "java/util/Comparator")) (by decide)
  refine OEnd.go (g' := (mkF m 8 #[.val (.ref a0), .val (.long q1), .second] [(.ref b10_5), (.ref a0)])) st2 ?_
  refine OEnd.go (T' := T2) (g' := (mkF m 9 #[.val (.ref a0), .val (.long q1), .second] [(.ref b10_5), (.ref b10_5), (.ref a0)])) (fun t k => ?_) ?_
  · show Steps p.tables e below (T2.setTop (mkF m 8 #[.val (.ref a0), .val (.long q1), .second] [(.ref b10_5), (.ref a0)])) t
    refine XS.dup X2.here hx rfl (hb hby d10_8) rfl rfl ?_
    show Steps p.tables e below (T2.setTop (mkF m 9 #[.val (.ref a0), .val (.long q1), .second] [(.ref b10_5), (.ref b10_5), (.ref a0)])) t
    exact k
  obtain ⟨_, _, ⟨T11, L11, k11, n11⟩, -, X11, ⟨Lc11, hQ11, l11, y11, z11⟩, st11⟩ := X2.specialBack hx (y := (⟨"java/util/TreeMap", "<init>", "()V"⟩ : MethodName)) rfl hown (mvT hZ (hw _ (List.mem_of_getElem? (i := 70) rfl))) (mvT hZ (hw _ (List.mem_of_getElem? (i := 71) rfl))) (mvT hZ (hw _ (List.mem_of_getElem? (i := 72) rfl))) (by decide) (backOf (W := 2) (rm11 l Z aZ hw [] b10_5 h2 n0 Z2 fc8 fc9 fc10 A2 gle_b10_5) hZ (hw _ (List.mem_of_getElem? (i := 72) rfl)) (hw _ (List.mem_of_getElem? (i := 69) rfl)) (by decide) (by decide)) (g := (mkF m 9 #[.val (.ref a0), .val (.long q1), .second] [(.ref b10_5), (.ref b10_5), (.ref a0)])) rfl (by rw [hml]; rfl) (Steps.refl _) (a := b10_5) (argsL := []) (rest := [(.ref b10_5), (.ref a0)]) (lenOf pd___V rfl) rfl (by show 2 * 0 + _ ≤ _; exact Nat.le_of_eq rfl) (hb hby d10_9) (fun _ _ => ⟨rfl, e2, (by decide : 1 + 0 ≤ _), (by decide : 9 + 0 ≤ _)⟩)
  dsimp only [Pt.U, Pt.locs, Pt.cells, Pt.slots] at X11 l11 y11 z11 st11 hQ11
  subst l11 y11 z11
  obtain ⟨rfl, N11q, u11_0⟩ := hQ11
  have N11 := Fr.app N0 N11q
  have Z11 : n0 ≤ T11.heap.size := Nat.le_trans Z2 u11_0.1
  have K11 : Keep h0 T11.heap [a0] := K2.trans u11_0 (allS (Or.inr sz_b10_5) all0)
  have fc12 : Fld Z T11.heap a0 "com/example/xixi/xixi/consumer/QueueCache" "messages" "Ljava/util/NavigableMap;" .null := (fc3.keep u11_0 (ninS ne_a0_b10_5 nin0))
  have fc13 : Fld Z T11.heap a0 "com/example/xixi/xixi/consumer/QueueCache" "largestPulled" "J" (.long (0 : Int64)) := (fc4.keep u11_0 (ninS ne_a0_b10_5 nin0))
  have fc14 : Fld Z T11.heap a0 "com/example/xixi/xixi/consumer/QueueCache" "nextOffset" "J" (.long (0 : Int64)) := (fc5.keep u11_0 (ninS ne_a0_b10_5 nin0))
  have fc15 : Fld Z T11.heap a0 "com/example/xixi/xixi/consumer/QueueCache" "progress" "J" (.long (0 : Int64)) := (fc6.keep u11_0 (ninS ne_a0_b10_5 nin0))
  have fc16 : Exa Z T11.heap a0 "com/example/xixi/xixi/consumer/QueueCache" := (fc7.keep u11_0)
  have fc17 : Exa Z T11.heap b10_5 "java/util/TreeMap" := (A2.keep u11_0)
  refine OEnd.go (g' := (mkF m 12 #[.val (.ref a0), .val (.long q1), .second] [(.ref b10_5), (.ref a0)])) (fun _ k => st11.trans k) ?_
  obtain ⟨T18, h18, X18, e18, W18, st18⟩ := putF X11 hx hZ hown (host := "") (Or.inl (hw _ (List.mem_of_getElem? (i := 86) rfl))) Via.refl rfl fc12 fc16 (Or.inr ⟨(hw _ (List.mem_of_getElem? (i := 87) rfl)), rfl, hnm⟩) (hw _ (List.mem_of_getElem? (i := 61) rfl)) (ty := (.object "java/util/NavigableMap")) (by decide) rfl rfl (g := (mkF m 12 #[.val (.ref a0), .val (.long q1), .second] [(.ref b10_5), (.ref a0)])) rfl rfl (hb hby d10_12)
  have N18 := Fr.snoc X18 N11 g0
  have Z18 : n0 ≤ h18.size := Nat.le_trans Z11 (Keep.of_wr W18).1
  have K18 : Keep h0 h18 [a0] := K11.wr W18 (Or.inl (List.mem_of_getElem? (i := 0) rfl))
  have fc19 : Fld Z h18 a0 "com/example/xixi/xixi/consumer/QueueCache" "messages" "Ljava/util/NavigableMap;" (.ref b10_5) := (fc12.same W18)
  have fc20 : Fld Z h18 a0 "com/example/xixi/xixi/consumer/QueueCache" "largestPulled" "J" (.long (0 : Int64)) := (fc13.other W18 (Or.inr (slot_ne (Or.inl (hw _ (List.mem_of_getElem? (i := 90) rfl))) (Or.inr (hw _ (List.mem_of_getElem? (i := 87) rfl))) (by decide) (t := .long) (t' := (.object "java/util/NavigableMap")) (by decide) (by decide))))
  have fc21 : Fld Z h18 a0 "com/example/xixi/xixi/consumer/QueueCache" "nextOffset" "J" (.long (0 : Int64)) := (fc14.other W18 (Or.inr (slot_ne (Or.inl (hw _ (List.mem_of_getElem? (i := 92) rfl))) (Or.inr (hw _ (List.mem_of_getElem? (i := 87) rfl))) (by decide) (t := .long) (t' := (.object "java/util/NavigableMap")) (by decide) (by decide))))
  have fc22 : Fld Z h18 a0 "com/example/xixi/xixi/consumer/QueueCache" "progress" "J" (.long (0 : Int64)) := (fc15.other W18 (Or.inr (slot_ne (Or.inl (hw _ (List.mem_of_getElem? (i := 94) rfl))) (Or.inr (hw _ (List.mem_of_getElem? (i := 87) rfl))) (by decide) (t := .long) (t' := (.object "java/util/NavigableMap")) (by decide) (by decide))))
  have fc23 : Exa Z h18 a0 "com/example/xixi/xixi/consumer/QueueCache" := (fc16.wr W18)
  have fc24 : Exa Z h18 b10_5 "java/util/TreeMap" := (fc17.wr W18)
  refine OEnd.go (g' := (mkF m 15 #[.val (.ref a0), .val (.long q1), .second] [])) st18 ?_
  refine OEnd.go (T' := T18) (g' := (mkF m 19 #[.val (.ref a0), .val (.long q1), .second] [(.long (-1 : Int64)), (.ref a0)])) (fun t k => ?_) ?_
  · show Steps p.tables e below (T18.setTop (mkF m 15 #[.val (.ref a0), .val (.long q1), .second] [])) t
    refine XS.aloadN X18.here hx rfl (hb hby d10_15) rfl rfl ?_
    show Steps p.tables e below (T18.setTop (mkF m 16 #[.val (.ref a0), .val (.long q1), .second] [(.ref a0)])) t
    refine X18.ldc2Long hx hown (mvT hZ (hw _ (List.mem_of_getElem? (i := 88) rfl))) (g := (mkF m 16 #[.val (.ref a0), .val (.long q1), .second] [(.ref a0)])) rfl (hb hby d10_16) _ ?_
    show Steps p.tables e below (T18.setTop (mkF m 19 #[.val (.ref a0), .val (.long q1), .second] [(.long (-1 : Int64)), (.ref a0)])) t
    exact k
  obtain ⟨T25, h25, X25, e25, W25, st25⟩ := putF X18 hx hZ hown (host := "") (Or.inl (hw _ (List.mem_of_getElem? (i := 89) rfl))) Via.refl e18 fc20 fc23 (Or.inl (hw _ (List.mem_of_getElem? (i := 90) rfl))) (hw _ (List.mem_of_getElem? (i := 61) rfl)) (ty := .long) (by decide) rfl rfl (g := (mkF m 19 #[.val (.ref a0), .val (.long q1), .second] [(.long (-1 : Int64)), (.ref a0)])) rfl rfl (hb hby d10_19)
  have N25 := Fr.snoc X25 N18 g0
  have Z25 : n0 ≤ h25.size := Nat.le_trans Z18 (Keep.of_wr W25).1
  have K25 : Keep h0 h25 [a0] := K18.wr W25 (Or.inl (List.mem_of_getElem? (i := 0) rfl))
  have fc26 : Fld Z h25 a0 "com/example/xixi/xixi/consumer/QueueCache" "messages" "Ljava/util/NavigableMap;" (.ref b10_5) := (fc19.other W25 (Or.inr (slot_ne (Or.inr (hw _ (List.mem_of_getElem? (i := 87) rfl))) (Or.inl (hw _ (List.mem_of_getElem? (i := 90) rfl))) (by decide) (t := (.object "java/util/NavigableMap")) (t' := .long) (by decide) (by decide))))
  have fc27 : Fld Z h25 a0 "com/example/xixi/xixi/consumer/QueueCache" "largestPulled" "J" (.long (-1 : Int64)) := (fc20.same W25)
  have fc28 : Fld Z h25 a0 "com/example/xixi/xixi/consumer/QueueCache" "nextOffset" "J" (.long (0 : Int64)) := (fc21.other W25 (Or.inr (slot_ne (Or.inl (hw _ (List.mem_of_getElem? (i := 92) rfl))) (Or.inl (hw _ (List.mem_of_getElem? (i := 90) rfl))) (by decide) (t := .long) (t' := .long) (by decide) (by decide))))
  have fc29 : Fld Z h25 a0 "com/example/xixi/xixi/consumer/QueueCache" "progress" "J" (.long (0 : Int64)) := (fc22.other W25 (Or.inr (slot_ne (Or.inl (hw _ (List.mem_of_getElem? (i := 94) rfl))) (Or.inl (hw _ (List.mem_of_getElem? (i := 90) rfl))) (by decide) (t := .long) (t' := .long) (by decide) (by decide))))
  have fc30 : Exa Z h25 a0 "com/example/xixi/xixi/consumer/QueueCache" := (fc23.wr W25)
  have fc31 : Exa Z h25 b10_5 "java/util/TreeMap" := (fc24.wr W25)
  refine OEnd.go (g' := (mkF m 22 #[.val (.ref a0), .val (.long q1), .second] [])) st25 ?_
  refine OEnd.go (T' := T25) (g' := (mkF m 24 #[.val (.ref a0), .val (.long q1), .second] [(.long q1), (.ref a0)])) (fun t k => ?_) ?_
  · show Steps p.tables e below (T25.setTop (mkF m 22 #[.val (.ref a0), .val (.long q1), .second] [])) t
    refine XS.aloadN X25.here hx rfl (hb hby d10_22) rfl rfl ?_
    show Steps p.tables e below (T25.setTop (mkF m 23 #[.val (.ref a0), .val (.long q1), .second] [(.ref a0)])) t
    refine XS.lloadN X25.here hx rfl (hb hby d10_23) rfl ?_
    show Steps p.tables e below (T25.setTop (mkF m 24 #[.val (.ref a0), .val (.long q1), .second] [(.long q1), (.ref a0)])) t
    exact k
  obtain ⟨T32, h32, X32, e32, W32, st32⟩ := putF X25 hx hZ hown (host := "") (Or.inl (hw _ (List.mem_of_getElem? (i := 91) rfl))) Via.refl e25 fc28 fc30 (Or.inl (hw _ (List.mem_of_getElem? (i := 92) rfl))) (hw _ (List.mem_of_getElem? (i := 61) rfl)) (ty := .long) (by decide) rfl rfl (g := (mkF m 24 #[.val (.ref a0), .val (.long q1), .second] [(.long q1), (.ref a0)])) rfl rfl (hb hby d10_24)
  have N32 := Fr.snoc X32 N25 g0
  have Z32 : n0 ≤ h32.size := Nat.le_trans Z25 (Keep.of_wr W32).1
  have K32 : Keep h0 h32 [a0] := K25.wr W32 (Or.inl (List.mem_of_getElem? (i := 0) rfl))
  have fc33 : Fld Z h32 a0 "com/example/xixi/xixi/consumer/QueueCache" "messages" "Ljava/util/NavigableMap;" (.ref b10_5) := (fc26.other W32 (Or.inr (slot_ne (Or.inr (hw _ (List.mem_of_getElem? (i := 87) rfl))) (Or.inl (hw _ (List.mem_of_getElem? (i := 92) rfl))) (by decide) (t := (.object "java/util/NavigableMap")) (t' := .long) (by decide) (by decide))))
  have fc34 : Fld Z h32 a0 "com/example/xixi/xixi/consumer/QueueCache" "largestPulled" "J" (.long (-1 : Int64)) := (fc27.other W32 (Or.inr (slot_ne (Or.inl (hw _ (List.mem_of_getElem? (i := 90) rfl))) (Or.inl (hw _ (List.mem_of_getElem? (i := 92) rfl))) (by decide) (t := .long) (t' := .long) (by decide) (by decide))))
  have fc35 : Fld Z h32 a0 "com/example/xixi/xixi/consumer/QueueCache" "nextOffset" "J" (.long q1) := (fc28.same W32)
  have fc36 : Fld Z h32 a0 "com/example/xixi/xixi/consumer/QueueCache" "progress" "J" (.long (0 : Int64)) := (fc29.other W32 (Or.inr (slot_ne (Or.inl (hw _ (List.mem_of_getElem? (i := 94) rfl))) (Or.inl (hw _ (List.mem_of_getElem? (i := 92) rfl))) (by decide) (t := .long) (t' := .long) (by decide) (by decide))))
  have fc37 : Exa Z h32 a0 "com/example/xixi/xixi/consumer/QueueCache" := (fc30.wr W32)
  have fc38 : Exa Z h32 b10_5 "java/util/TreeMap" := (fc31.wr W32)
  refine OEnd.go (g' := (mkF m 27 #[.val (.ref a0), .val (.long q1), .second] [])) st32 ?_
  refine OEnd.go (T' := T32) (g' := (mkF m 29 #[.val (.ref a0), .val (.long q1), .second] [(.long q1), (.ref a0)])) (fun t k => ?_) ?_
  · show Steps p.tables e below (T32.setTop (mkF m 27 #[.val (.ref a0), .val (.long q1), .second] [])) t
    refine XS.aloadN X32.here hx rfl (hb hby d10_27) rfl rfl ?_
    show Steps p.tables e below (T32.setTop (mkF m 28 #[.val (.ref a0), .val (.long q1), .second] [(.ref a0)])) t
    refine XS.lloadN X32.here hx rfl (hb hby d10_28) rfl ?_
    show Steps p.tables e below (T32.setTop (mkF m 29 #[.val (.ref a0), .val (.long q1), .second] [(.long q1), (.ref a0)])) t
    exact k
  obtain ⟨T39, h39, X39, e39, W39, st39⟩ := putF X32 hx hZ hown (host := "") (Or.inl (hw _ (List.mem_of_getElem? (i := 93) rfl))) Via.refl e32 fc36 fc37 (Or.inl (hw _ (List.mem_of_getElem? (i := 94) rfl))) (hw _ (List.mem_of_getElem? (i := 61) rfl)) (ty := .long) (by decide) rfl rfl (g := (mkF m 29 #[.val (.ref a0), .val (.long q1), .second] [(.long q1), (.ref a0)])) rfl rfl (hb hby d10_29)
  have N39 := Fr.snoc X39 N32 g0
  have Z39 : n0 ≤ h39.size := Nat.le_trans Z32 (Keep.of_wr W39).1
  have K39 : Keep h0 h39 [a0] := K32.wr W39 (Or.inl (List.mem_of_getElem? (i := 0) rfl))
  have fc40 : Fld Z h39 a0 "com/example/xixi/xixi/consumer/QueueCache" "messages" "Ljava/util/NavigableMap;" (.ref b10_5) := (fc33.other W39 (Or.inr (slot_ne (Or.inr (hw _ (List.mem_of_getElem? (i := 87) rfl))) (Or.inl (hw _ (List.mem_of_getElem? (i := 94) rfl))) (by decide) (t := (.object "java/util/NavigableMap")) (t' := .long) (by decide) (by decide))))
  have fc41 : Fld Z h39 a0 "com/example/xixi/xixi/consumer/QueueCache" "largestPulled" "J" (.long (-1 : Int64)) := (fc34.other W39 (Or.inr (slot_ne (Or.inl (hw _ (List.mem_of_getElem? (i := 90) rfl))) (Or.inl (hw _ (List.mem_of_getElem? (i := 94) rfl))) (by decide) (t := .long) (t' := .long) (by decide) (by decide))))
  have fc42 : Fld Z h39 a0 "com/example/xixi/xixi/consumer/QueueCache" "nextOffset" "J" (.long q1) := (fc35.other W39 (Or.inr (slot_ne (Or.inl (hw _ (List.mem_of_getElem? (i := 92) rfl))) (Or.inl (hw _ (List.mem_of_getElem? (i := 94) rfl))) (by decide) (t := .long) (t' := .long) (by decide) (by decide))))
  have fc43 : Fld Z h39 a0 "com/example/xixi/xixi/consumer/QueueCache" "progress" "J" (.long q1) := (fc36.same W39)
  have fc44 : Exa Z h39 a0 "com/example/xixi/xixi/consumer/QueueCache" := (fc37.wr W39)
  have fc45 : Exa Z h39 b10_5 "java/util/TreeMap" := (fc38.wr W39)
  refine OEnd.go (g' := (mkF m 32 #[.val (.ref a0), .val (.long q1), .second] [])) st39 ?_
  exact OEnd.void X39 hx Bd.returns hlk (hb hby d10_32) ⟨rfl, N39, (own_at e39 (P := fun h => Keep h0 h [a0]) K39)⟩ (by decide) (by decide)
theorem d8_0 : decode prog_18_method_1_code 0 = .ok (.aload_n 0, 1) := by decide +kernel
theorem d8_1 : decode prog_18_method_1_code 1 = .ok (.invokespecial 1, 3) := by decide +kernel
theorem d8_4 : decode prog_18_method_1_code 4 = .ok (.aload_n 0, 1) := by decide +kernel
theorem d8_5 : decode prog_18_method_1_code 5 = .ok (.new 7, 3) := by decide +kernel
theorem d8_8 : decode prog_18_method_1_code 8 = .ok (.dup, 1) := by decide +kernel
theorem d8_9 : decode prog_18_method_1_code 9 = .ok (.invokespecial 9, 3) := by decide +kernel
theorem d8_12 : decode prog_18_method_1_code 12 = .ok (.putfield 10, 3) := by decide +kernel
theorem d8_15 : decode prog_18_method_1_code 15 = .ok (.aload_n 0, 1) := by decide +kernel
theorem d8_16 : decode prog_18_method_1_code 16 = .ok (.aload_n 1, 1) := by decide +kernel
theorem d8_17 : decode prog_18_method_1_code 17 = .ok (.putfield 16, 3) := by decide +kernel
theorem d8_20 : decode prog_18_method_1_code 20 = .ok (.aload_n 0, 1) := by decide +kernel
theorem d8_21 : decode prog_18_method_1_code 21 = .ok (.new 20, 3) := by decide +kernel
theorem d8_24 : decode prog_18_method_1_code 24 = .ok (.dup, 1) := by decide +kernel
theorem d8_25 : decode prog_18_method_1_code 25 = .ok (.lload_n 2, 1) := by decide +kernel
theorem d8_26 : decode prog_18_method_1_code 26 = .ok (.invokespecial 22, 3) := by decide +kernel
theorem pd__J_V : parseMethodDescriptor "(J)V" = some ⟨[.long], none⟩ := by decide +kernel
theorem d8_29 : decode prog_18_method_1_code 29 = .ok (.putfield 25, 3) := by decide +kernel
theorem d8_32 : decode prog_18_method_1_code 32 = .ok (.return_, 1) := by decide +kernel
theorem pn_com_example_xixi_xixi_consumer_PullRequest : plainName "com/example/xixi/xixi/consumer/PullRequest" = true := by first | (simp [plainName, overriddenIn]; done) | decide +kernel
theorem ef_8 (m : MethodId) (x0 : Addr) (x1 : Addr) (x2 : Int64) : entryFrame m #[(.ref x0), (.ref x1), (.long x2)] 4 = mkF m 0 #[.val (.ref x0), .val (.ref x1), .val (.long x2), .second] [] := by first | (simp [entryFrame, mkF, argsToLocals, Value.category]; done) | rfl
def Q8 (Z : State) (a0 : Addr) (a1 : Addr) (q2 : Int64) (h0 : Heap) (n0 : Nat) (v : Option Value) (h : Heap) (L : List Loc) : Prop := v = none ∧ Fr n0 L ∧ Keep h0 h [a0] ∧ Exa Z h a0 "com/example/xixi/xixi/consumer/PullRequest" ∧ Fld Z h a0 "com/example/xixi/xixi/consumer/PullRequest" "heldBack" "Z" (.int (0 : Int32))
set_option maxRecDepth 65536 in
set_option maxHeartbeats 40000000 in
theorem rm8 (l : Launch) (Z : State) (aZ : Array Value) (hw : ∀ d ∈ tables_1, d.before aZ Z = true) (ws : List Jvm.Cond) (a0 : Addr) (a1 : Addr) (q2 : Int64) (h0 : Heap) (n0 : Nat) (Z0 : n0 ≤ h0.size) (Fc : Fld Z h0 a0 "com/example/xixi/xixi/consumer/PullRequest" "commitPlanned" "Ljava/util/concurrent/atomic/AtomicBoolean;" .null) (Fq : Fld Z h0 a0 "com/example/xixi/xixi/consumer/PullRequest" "queue" "Lcom/example/xixi/xixi/consumer/TopicQueue;" .null) (Fh : Fld Z h0 a0 "com/example/xixi/xixi/consumer/PullRequest" "cache" "Lcom/example/xixi/xixi/consumer/QueueCache;" .null) (Fb : Fld Z h0 a0 "com/example/xixi/xixi/consumer/PullRequest" "heldBack" "Z" (.int (0 : Int32))) (E0 : Exa Z h0 a0 "com/example/xixi/xixi/consumer/PullRequest") (g0 : n0 ≤ a0) :
    MetFree l (⟨"com/example/xixi/xixi/consumer/PullRequest", "<init>", "(Lcom/example/xixi/xixi/consumer/TopicQueue;J)V"⟩ : MethodName) (head1 (Jvm.Cond.code (⟨"com/example/xixi/xixi/consumer/PullRequest", "<init>", "(Lcom/example/xixi/xixi/consumer/TopicQueue;J)V"⟩ : MethodName) prog_18_method_1_code 4 none :: ws) ({ frames := 4, cells := 3, slots := 16, locals := 54 } : Room)) (fun a U => a = #[(.ref a0), (.ref a1), (.long q2)] ∧ Z.Warmed39 U.vm ∧ U.heap = h0) (fun _ _ _ _ _ => True) (fun _ U o U' => ∃ v L, o = .returned v ∧ Q8 Z a0 a1 q2 h0 n0 v U'.heap L ∧ FrameEnd U o U' L ({ frames := 4, cells := 3, slots := 16, locals := 54 } : Room).cells ({ frames := 4, cells := 3, slots := 16, locals := 54 } : Room).slots) := by
  refine MetFree.of_bodySF (plainFor_of_name pn_com_example_xixi_xixi_consumer_PullRequest) hisR ?_
  intro p e s m args below meth c s₁ Bd hml0 hP hK
  obtain ⟨rfl, hZ, hh⟩ := hP
  have hx := Bd.exec
  have hby := Bd.bytes
  have hlk : meth.locks = false := BodyLoose.notSynchronized Bd
  have hml : c.maxLocals = 4 := hml0
  have hown : s.vm.findClass "com/example/xixi/xixi/consumer/PullRequest" = some m.cls := findClass_of_methodNamed Bd.named
  have hnm := (name_of_methodNamed Bd.named Bd.method).1
  have X0 : Stand p l e ({ frames := 4, cells := 3, slots := 16, locals := 54 } : Room) s m #[(.ref a0), (.ref a1), (.long q2)] below meth c s₁ [] 0 0 := Stand.of_body Bd
  have e0 : s₁.heap = h0 := by rw [← hh, Bd.state]; rfl
  have N0 := Fr.nil n0
  have K0 : Keep h0 h0 [a0] := Keep.refl _ _
  show OEnd p e below s s₁ (entryFrame m #[(.ref a0), (.ref a1), (.long q2)] 4) (Q8 Z a0 a1 q2 h0 n0) ({ frames := 4, cells := 3, slots := 16, locals := 54 } : Room).cells ({ frames := 4, cells := 3, slots := 16, locals := 54 } : Room).slots
  refine OEnd.go (g' := (mkF m 0 #[.val (.ref a0), .val (.ref a1), .val (.long q2), .second] [])) (fun _ k => castTop (ef_8 m a0 a1 q2) k) ?_
  refine OEnd.go (T' := s₁) (g' := (mkF m 1 #[.val (.ref a0), .val (.ref a1), .val (.long q2), .second] [(.ref a0)])) (fun t k => ?_) ?_
  · show Steps p.tables e below (s₁.setTop (mkF m 0 #[.val (.ref a0), .val (.ref a1), .val (.long q2), .second] [])) t
    refine XS.aloadN X0.here hx rfl (hb hby d8_0) rfl rfl ?_
    show Steps p.tables e below (s₁.setTop (mkF m 1 #[.val (.ref a0), .val (.ref a1), .val (.long q2), .second] [(.ref a0)])) t
    exact k
  obtain ⟨T1, X1, e1, st1⟩ := initO X0 hx hZ hown (hw _ (List.mem_of_getElem? (i := 48) rfl)) (hw _ (List.mem_of_getElem? (i := 23) rfl)) (hw _ (List.mem_of_getElem? (i := 24) rfl)) e0 (g := (mkF m 1 #[.val (.ref a0), .val (.ref a1), .val (.long q2), .second] [(.ref a0)])) rfl (by rw [hml]; rfl) rfl (hb hby d8_1) (by decide) (W := 0) (by show 2 * 0 + _ ≤ _; exact Nat.le_of_eq rfl) (by decide)
  refine OEnd.go (g' := (mkF m 4 #[.val (.ref a0), .val (.ref a1), .val (.long q2), .second] [])) st1 ?_
  refine OEnd.go (T' := T1) (g' := (mkF m 5 #[.val (.ref a0), .val (.ref a1), .val (.long q2), .second] [(.ref a0)])) (fun t k => ?_) ?_
  · show Steps p.tables e below (T1.setTop (mkF m 4 #[.val (.ref a0), .val (.ref a1), .val (.long q2), .second] [])) t
    refine XS.aloadN X1.here hx rfl (hb hby d8_4) rfl rfl ?_
    show Steps p.tables e below (T1.setTop (mkF m 5 #[.val (.ref a0), .val (.ref a1), .val (.long q2), .second] [(.ref a0)])) t
    exact k
  obtain ⟨T2, h2, X2, e2, E2, A2, D2, -, st2⟩ := newO X1 hx hZ hown (hw _ (List.mem_of_getElem? (i := 49) rfl)) (hw _ (List.mem_of_getElem? (i := 50) rfl)) (hw _ (List.mem_of_getElem? (i := 51) rfl)) e1 (g := (mkF m 5 #[.val (.ref a0), .val (.ref a1), .val (.long q2), .second] [(.ref a0)])) rfl (hb hby d8_5) (by decide) (by decide)
  obtain ⟨b8_5, g2⟩ : ∃ z, z = h0.size := ⟨_, rfl⟩
  rw [← g2] at A2 D2 st2
  have gle_b8_5 : n0 ≤ b8_5 := Nat.le_trans Z0 (Nat.le_of_eq g2.symm)
  have sz_b8_5 : h0.size ≤ b8_5 := Nat.le_trans K0.1 (Nat.le_of_eq g2.symm)
  have ne_a0_b8_5 : a0 ≠ b8_5 := Nat.ne_of_lt (Nat.lt_of_lt_of_le Fc.lt (Nat.le_of_eq g2.symm))
  have fc3 : Fld Z h2 a0 "com/example/xixi/xixi/consumer/PullRequest" "commitPlanned" "Ljava/util/concurrent/atomic/AtomicBoolean;" .null := (Fc.ext E2)
  have fc4 : Fld Z h2 a0 "com/example/xixi/xixi/consumer/PullRequest" "queue" "Lcom/example/xixi/xixi/consumer/TopicQueue;" .null := (Fq.ext E2)
  have fc5 : Fld Z h2 a0 "com/example/xixi/xixi/consumer/PullRequest" "cache" "Lcom/example/xixi/xixi/consumer/QueueCache;" .null := (Fh.ext E2)
  have fc6 : Fld Z h2 a0 "com/example/xixi/xixi/consumer/PullRequest" "heldBack" "Z" (.int (0 : Int32)) := (Fb.ext E2)
  have fc7 : Exa Z h2 a0 "com/example/xixi/xixi/consumer/PullRequest" := (E0.ext E2)
  have Z2 : n0 ≤ h2.size := Nat.le_trans Z0 E2.1
  have K2 : Keep h0 h2 [a0] := K0.ext E2
  refine OEnd.go (g' := (mkF m 8 #[.val (.ref a0), .val (.ref a1), .val (.long q2), .second] [(.ref b8_5), (.ref a0)])) st2 ?_
  refine OEnd.go (T' := T2) (g' := (mkF m 9 #[.val (.ref a0), .val (.ref a1), .val (.long q2), .second] [(.ref b8_5), (.ref b8_5), (.ref a0)])) (fun t k => ?_) ?_
  · show Steps p.tables e below (T2.setTop (mkF m 8 #[.val (.ref a0), .val (.ref a1), .val (.long q2), .second] [(.ref b8_5), (.ref a0)])) t
    refine XS.dup X2.here hx rfl (hb hby d8_8) rfl rfl ?_
    show Steps p.tables e below (T2.setTop (mkF m 9 #[.val (.ref a0), .val (.ref a1), .val (.long q2), .second] [(.ref b8_5), (.ref b8_5), (.ref a0)])) t
    exact k
  obtain ⟨_, _, ⟨T8, L8, k8, n8⟩, -, X8, ⟨Lc8, hQ8, l8, y8, z8⟩, st8⟩ := X2.specialBack hx (y := (⟨"java/util/concurrent/atomic/AtomicBoolean", "<init>", "()V"⟩ : MethodName)) rfl hown (mvT hZ (hw _ (List.mem_of_getElem? (i := 52) rfl))) (mvT hZ (hw _ (List.mem_of_getElem? (i := 53) rfl))) (mvT hZ (hw _ (List.mem_of_getElem? (i := 54) rfl))) (by decide) (backOf (W := 2) (rm9 l Z aZ hw [] b8_5 h2 n0 Z2 ) hZ (hw _ (List.mem_of_getElem? (i := 54) rfl)) (hw _ (List.mem_of_getElem? (i := 51) rfl)) (by decide) (by decide)) (g := (mkF m 9 #[.val (.ref a0), .val (.ref a1), .val (.long q2), .second] [(.ref b8_5), (.ref b8_5), (.ref a0)])) rfl (by rw [hml]; rfl) (Steps.refl _) (a := b8_5) (argsL := []) (rest := [(.ref b8_5), (.ref a0)]) (lenOf pd___V rfl) rfl (by show 2 * 0 + _ ≤ _; exact Nat.le_of_eq rfl) (hb hby d8_9) (fun _ _ => ⟨rfl, e2, (by decide : 1 + 0 ≤ _), (by decide : 1 + 0 ≤ _)⟩)
  dsimp only [Pt.U, Pt.locs, Pt.cells, Pt.slots] at X8 l8 y8 z8 st8 hQ8
  subst l8 y8 z8
  obtain ⟨rfl, N8q, e8⟩ := hQ8
  have N8 := Fr.app N0 N8q
  refine OEnd.go (g' := (mkF m 12 #[.val (.ref a0), .val (.ref a1), .val (.long q2), .second] [(.ref b8_5), (.ref a0)])) (fun _ k => st8.trans k) ?_
  obtain ⟨T9, h9, X9, e9, W9, st9⟩ := putF X8 hx hZ hown (host := "") (Or.inl (hw _ (List.mem_of_getElem? (i := 56) rfl))) Via.refl e8 fc3 fc7 (Or.inr ⟨(hw _ (List.mem_of_getElem? (i := 57) rfl)), rfl, hnm⟩) (hw _ (List.mem_of_getElem? (i := 43) rfl)) (ty := (.object "java/util/concurrent/atomic/AtomicBoolean")) (by decide) rfl rfl (g := (mkF m 12 #[.val (.ref a0), .val (.ref a1), .val (.long q2), .second] [(.ref b8_5), (.ref a0)])) rfl rfl (hb hby d8_12)
  have N9 := Fr.snoc X9 N8 g0
  have Z9 : n0 ≤ h9.size := Nat.le_trans Z2 (Keep.of_wr W9).1
  have K9 : Keep h0 h9 [a0] := K2.wr W9 (Or.inl (List.mem_of_getElem? (i := 0) rfl))
  have fc10 : Fld Z h9 a0 "com/example/xixi/xixi/consumer/PullRequest" "commitPlanned" "Ljava/util/concurrent/atomic/AtomicBoolean;" (.ref b8_5) := (fc3.same W9)
  have fc11 : Fld Z h9 a0 "com/example/xixi/xixi/consumer/PullRequest" "queue" "Lcom/example/xixi/xixi/consumer/TopicQueue;" .null := (fc4.other W9 (Or.inr (slot_ne (Or.inr (hw _ (List.mem_of_getElem? (i := 59) rfl))) (Or.inr (hw _ (List.mem_of_getElem? (i := 57) rfl))) (by decide) (t := (.object "com/example/xixi/xixi/consumer/TopicQueue")) (t' := (.object "java/util/concurrent/atomic/AtomicBoolean")) (by decide) (by decide))))
  have fc12 : Fld Z h9 a0 "com/example/xixi/xixi/consumer/PullRequest" "cache" "Lcom/example/xixi/xixi/consumer/QueueCache;" .null := (fc5.other W9 (Or.inr (slot_ne (Or.inl (hw _ (List.mem_of_getElem? (i := 96) rfl))) (Or.inr (hw _ (List.mem_of_getElem? (i := 57) rfl))) (by decide) (t := (.object "com/example/xixi/xixi/consumer/QueueCache")) (t' := (.object "java/util/concurrent/atomic/AtomicBoolean")) (by decide) (by decide))))
  have fc13 : Fld Z h9 a0 "com/example/xixi/xixi/consumer/PullRequest" "heldBack" "Z" (.int (0 : Int32)) := (fc6.other W9 (Or.inr (slot_ne (Or.inl (hw _ (List.mem_of_getElem? (i := 103) rfl))) (Or.inr (hw _ (List.mem_of_getElem? (i := 57) rfl))) (by decide) (t := .boolean) (t' := (.object "java/util/concurrent/atomic/AtomicBoolean")) (by decide) (by decide))))
  have fc14 : Exa Z h9 a0 "com/example/xixi/xixi/consumer/PullRequest" := (fc7.wr W9)
  have fc15 : Exa Z h9 b8_5 "java/util/concurrent/atomic/AtomicBoolean" := (A2.wr W9)
  refine OEnd.go (g' := (mkF m 15 #[.val (.ref a0), .val (.ref a1), .val (.long q2), .second] [])) st9 ?_
  refine OEnd.go (T' := T9) (g' := (mkF m 17 #[.val (.ref a0), .val (.ref a1), .val (.long q2), .second] [(.ref a1), (.ref a0)])) (fun t k => ?_) ?_
  · show Steps p.tables e below (T9.setTop (mkF m 15 #[.val (.ref a0), .val (.ref a1), .val (.long q2), .second] [])) t
    refine XS.aloadN X9.here hx rfl (hb hby d8_15) rfl rfl ?_
    show Steps p.tables e below (T9.setTop (mkF m 16 #[.val (.ref a0), .val (.ref a1), .val (.long q2), .second] [(.ref a0)])) t
    refine XS.aloadN X9.here hx rfl (hb hby d8_16) rfl rfl ?_
    show Steps p.tables e below (T9.setTop (mkF m 17 #[.val (.ref a0), .val (.ref a1), .val (.long q2), .second] [(.ref a1), (.ref a0)])) t
    exact k
  obtain ⟨T16, h16, X16, e16, W16, st16⟩ := putF X9 hx hZ hown (host := "") (Or.inl (hw _ (List.mem_of_getElem? (i := 58) rfl))) Via.refl e9 fc11 fc14 (Or.inr ⟨(hw _ (List.mem_of_getElem? (i := 59) rfl)), rfl, hnm⟩) (hw _ (List.mem_of_getElem? (i := 43) rfl)) (ty := (.object "com/example/xixi/xixi/consumer/TopicQueue")) (by decide) rfl rfl (g := (mkF m 17 #[.val (.ref a0), .val (.ref a1), .val (.long q2), .second] [(.ref a1), (.ref a0)])) rfl rfl (hb hby d8_17)
  have N16 := Fr.snoc X16 N9 g0
  have Z16 : n0 ≤ h16.size := Nat.le_trans Z9 (Keep.of_wr W16).1
  have K16 : Keep h0 h16 [a0] := K9.wr W16 (Or.inl (List.mem_of_getElem? (i := 0) rfl))
  have fc17 : Fld Z h16 a0 "com/example/xixi/xixi/consumer/PullRequest" "commitPlanned" "Ljava/util/concurrent/atomic/AtomicBoolean;" (.ref b8_5) := (fc10.other W16 (Or.inr (slot_ne (Or.inr (hw _ (List.mem_of_getElem? (i := 57) rfl))) (Or.inr (hw _ (List.mem_of_getElem? (i := 59) rfl))) (by decide) (t := (.object "java/util/concurrent/atomic/AtomicBoolean")) (t' := (.object "com/example/xixi/xixi/consumer/TopicQueue")) (by decide) (by decide))))
  have fc18 : Fld Z h16 a0 "com/example/xixi/xixi/consumer/PullRequest" "queue" "Lcom/example/xixi/xixi/consumer/TopicQueue;" (.ref a1) := (fc11.same W16)
  have fc19 : Fld Z h16 a0 "com/example/xixi/xixi/consumer/PullRequest" "cache" "Lcom/example/xixi/xixi/consumer/QueueCache;" .null := (fc12.other W16 (Or.inr (slot_ne (Or.inl (hw _ (List.mem_of_getElem? (i := 96) rfl))) (Or.inr (hw _ (List.mem_of_getElem? (i := 59) rfl))) (by decide) (t := (.object "com/example/xixi/xixi/consumer/QueueCache")) (t' := (.object "com/example/xixi/xixi/consumer/TopicQueue")) (by decide) (by decide))))
  have fc20 : Fld Z h16 a0 "com/example/xixi/xixi/consumer/PullRequest" "heldBack" "Z" (.int (0 : Int32)) := (fc13.other W16 (Or.inr (slot_ne (Or.inl (hw _ (List.mem_of_getElem? (i := 103) rfl))) (Or.inr (hw _ (List.mem_of_getElem? (i := 59) rfl))) (by decide) (t := .boolean) (t' := (.object "com/example/xixi/xixi/consumer/TopicQueue")) (by decide) (by decide))))
  have fc21 : Exa Z h16 a0 "com/example/xixi/xixi/consumer/PullRequest" := (fc14.wr W16)
  have fc22 : Exa Z h16 b8_5 "java/util/concurrent/atomic/AtomicBoolean" := (fc15.wr W16)
  refine OEnd.go (g' := (mkF m 20 #[.val (.ref a0), .val (.ref a1), .val (.long q2), .second] [])) st16 ?_
  refine OEnd.go (T' := T16) (g' := (mkF m 21 #[.val (.ref a0), .val (.ref a1), .val (.long q2), .second] [(.ref a0)])) (fun t k => ?_) ?_
  · show Steps p.tables e below (T16.setTop (mkF m 20 #[.val (.ref a0), .val (.ref a1), .val (.long q2), .second] [])) t
    refine XS.aloadN X16.here hx rfl (hb hby d8_20) rfl rfl ?_
    show Steps p.tables e below (T16.setTop (mkF m 21 #[.val (.ref a0), .val (.ref a1), .val (.long q2), .second] [(.ref a0)])) t
    exact k
  obtain ⟨T23, h23, X23, e23, E23, A23, D23, -, st23⟩ := newO X16 hx hZ hown (hw _ (List.mem_of_getElem? (i := 60) rfl)) (hw _ (List.mem_of_getElem? (i := 61) rfl)) (hw _ (List.mem_of_getElem? (i := 62) rfl)) e16 (g := (mkF m 21 #[.val (.ref a0), .val (.ref a1), .val (.long q2), .second] [(.ref a0)])) rfl (hb hby d8_21) (by decide) (by decide)
  obtain ⟨b8_21, g23⟩ : ∃ z, z = h16.size := ⟨_, rfl⟩
  rw [← g23] at A23 D23 st23
  have gle_b8_21 : n0 ≤ b8_21 := Nat.le_trans Z16 (Nat.le_of_eq g23.symm)
  have sz_b8_21 : h0.size ≤ b8_21 := Nat.le_trans K16.1 (Nat.le_of_eq g23.symm)
  have ne_a0_b8_21 : a0 ≠ b8_21 := Nat.ne_of_lt (Nat.lt_of_lt_of_le fc17.lt (Nat.le_of_eq g23.symm))
  have ne_b8_5_b8_21 : b8_5 ≠ b8_21 := Nat.ne_of_lt (Nat.lt_of_lt_of_le fc22.lt (Nat.le_of_eq g23.symm))
  have fc24 : Fld Z h23 a0 "com/example/xixi/xixi/consumer/PullRequest" "commitPlanned" "Ljava/util/concurrent/atomic/AtomicBoolean;" (.ref b8_5) := (fc17.ext E23)
  have fc25 : Fld Z h23 a0 "com/example/xixi/xixi/consumer/PullRequest" "queue" "Lcom/example/xixi/xixi/consumer/TopicQueue;" (.ref a1) := (fc18.ext E23)
  have fc26 : Fld Z h23 a0 "com/example/xixi/xixi/consumer/PullRequest" "cache" "Lcom/example/xixi/xixi/consumer/QueueCache;" .null := (fc19.ext E23)
  have fc27 : Fld Z h23 a0 "com/example/xixi/xixi/consumer/PullRequest" "heldBack" "Z" (.int (0 : Int32)) := (fc20.ext E23)
  have fc28 : Exa Z h23 a0 "com/example/xixi/xixi/consumer/PullRequest" := (fc21.ext E23)
  have fc29 : Exa Z h23 b8_5 "java/util/concurrent/atomic/AtomicBoolean" := (fc22.ext E23)
  have Z23 : n0 ≤ h23.size := Nat.le_trans Z16 E23.1
  have K23 : Keep h0 h23 [a0] := K16.ext E23
  have fc30 : Fld Z h23 b8_21 "com/example/xixi/xixi/consumer/QueueCache" "messages" "Ljava/util/NavigableMap;" .null := D23 (Or.inr (hw _ (List.mem_of_getElem? (i := 87) rfl))) (ty := (.object "java/util/NavigableMap")) (by decide)
  have fc31 : Fld Z h23 b8_21 "com/example/xixi/xixi/consumer/QueueCache" "largestPulled" "J" (.long (0 : Int64)) := D23 (Or.inl (hw _ (List.mem_of_getElem? (i := 90) rfl))) (ty := .long) (by decide)
  have fc32 : Fld Z h23 b8_21 "com/example/xixi/xixi/consumer/QueueCache" "nextOffset" "J" (.long (0 : Int64)) := D23 (Or.inl (hw _ (List.mem_of_getElem? (i := 92) rfl))) (ty := .long) (by decide)
  have fc33 : Fld Z h23 b8_21 "com/example/xixi/xixi/consumer/QueueCache" "progress" "J" (.long (0 : Int64)) := D23 (Or.inl (hw _ (List.mem_of_getElem? (i := 94) rfl))) (ty := .long) (by decide)
  refine OEnd.go (g' := (mkF m 24 #[.val (.ref a0), .val (.ref a1), .val (.long q2), .second] [(.ref b8_21), (.ref a0)])) st23 ?_
  refine OEnd.go (T' := T23) (g' := (mkF m 26 #[.val (.ref a0), .val (.ref a1), .val (.long q2), .second] [(.long q2), (.ref b8_21), (.ref b8_21), (.ref a0)])) (fun t k => ?_) ?_
  · show Steps p.tables e below (T23.setTop (mkF m 24 #[.val (.ref a0), .val (.ref a1), .val (.long q2), .second] [(.ref b8_21), (.ref a0)])) t
    refine XS.dup X23.here hx rfl (hb hby d8_24) rfl rfl ?_
    show Steps p.tables e below (T23.setTop (mkF m 25 #[.val (.ref a0), .val (.ref a1), .val (.long q2), .second] [(.ref b8_21), (.ref b8_21), (.ref a0)])) t
    refine XS.lloadN X23.here hx rfl (hb hby d8_25) rfl ?_
    show Steps p.tables e below (T23.setTop (mkF m 26 #[.val (.ref a0), .val (.ref a1), .val (.long q2), .second] [(.long q2), (.ref b8_21), (.ref b8_21), (.ref a0)])) t
    exact k
  obtain ⟨_, _, ⟨T34, L34, k34, n34⟩, -, X34, ⟨Lc34, hQ34, l34, y34, z34⟩, st34⟩ := X23.specialBack hx (y := (⟨"com/example/xixi/xixi/consumer/QueueCache", "<init>", "(J)V"⟩ : MethodName)) rfl hown (mvT hZ (hw _ (List.mem_of_getElem? (i := 63) rfl))) (mvT hZ (hw _ (List.mem_of_getElem? (i := 64) rfl))) (mvT hZ (hw _ (List.mem_of_getElem? (i := 65) rfl))) (by decide) (backOf (W := 2) (rm10 l Z aZ hw [] b8_21 q2 h23 n0 Z23 fc30 fc31 fc32 fc33 A23 gle_b8_21) hZ (hw _ (List.mem_of_getElem? (i := 65) rfl)) (hw _ (List.mem_of_getElem? (i := 62) rfl)) (by decide) (by decide)) (g := (mkF m 26 #[.val (.ref a0), .val (.ref a1), .val (.long q2), .second] [(.long q2), (.ref b8_21), (.ref b8_21), (.ref a0)])) rfl (by rw [hml]; rfl) (Steps.refl _) (a := b8_21) (argsL := [(.long q2)]) (rest := [(.ref b8_21), (.ref a0)]) (lenOf pd__J_V rfl) rfl (by show 2 * 0 + _ ≤ _; exact Nat.le_of_eq rfl) (hb hby d8_26) (fun _ _ => ⟨rfl, e23, (by decide : 2 + 1 ≤ _), (by decide : 7 + 9 ≤ _)⟩)
  dsimp only [Pt.U, Pt.locs, Pt.cells, Pt.slots] at X34 l34 y34 z34 st34 hQ34
  subst l34 y34 z34
  obtain ⟨rfl, N34q, u34_0⟩ := hQ34
  have N34 := Fr.app N16 N34q
  have Z34 : n0 ≤ T34.heap.size := Nat.le_trans Z23 u34_0.1
  have K34 : Keep h0 T34.heap [a0] := K23.trans u34_0 (allS (Or.inr sz_b8_21) all0)
  have fc35 : Fld Z T34.heap a0 "com/example/xixi/xixi/consumer/PullRequest" "commitPlanned" "Ljava/util/concurrent/atomic/AtomicBoolean;" (.ref b8_5) := (fc24.keep u34_0 (ninS ne_a0_b8_21 nin0))
  have fc36 : Fld Z T34.heap a0 "com/example/xixi/xixi/consumer/PullRequest" "queue" "Lcom/example/xixi/xixi/consumer/TopicQueue;" (.ref a1) := (fc25.keep u34_0 (ninS ne_a0_b8_21 nin0))
  have fc37 : Fld Z T34.heap a0 "com/example/xixi/xixi/consumer/PullRequest" "cache" "Lcom/example/xixi/xixi/consumer/QueueCache;" .null := (fc26.keep u34_0 (ninS ne_a0_b8_21 nin0))
  have fc38 : Fld Z T34.heap a0 "com/example/xixi/xixi/consumer/PullRequest" "heldBack" "Z" (.int (0 : Int32)) := (fc27.keep u34_0 (ninS ne_a0_b8_21 nin0))
  have fc39 : Exa Z T34.heap a0 "com/example/xixi/xixi/consumer/PullRequest" := (fc28.keep u34_0)
  have fc40 : Exa Z T34.heap b8_5 "java/util/concurrent/atomic/AtomicBoolean" := (fc29.keep u34_0)
  have fc41 : Exa Z T34.heap b8_21 "com/example/xixi/xixi/consumer/QueueCache" := (A23.keep u34_0)
  refine OEnd.go (g' := (mkF m 29 #[.val (.ref a0), .val (.ref a1), .val (.long q2), .second] [(.ref b8_21), (.ref a0)])) (fun _ k => st34.trans k) ?_
  obtain ⟨T42, h42, X42, e42, W42, st42⟩ := putF X34 hx hZ hown (host := "") (Or.inl (hw _ (List.mem_of_getElem? (i := 95) rfl))) Via.refl rfl fc37 fc39 (Or.inl (hw _ (List.mem_of_getElem? (i := 96) rfl))) (hw _ (List.mem_of_getElem? (i := 43) rfl)) (ty := (.object "com/example/xixi/xixi/consumer/QueueCache")) (by decide) rfl rfl (g := (mkF m 29 #[.val (.ref a0), .val (.ref a1), .val (.long q2), .second] [(.ref b8_21), (.ref a0)])) rfl rfl (hb hby d8_29)
  have N42 := Fr.snoc X42 N34 g0
  have Z42 : n0 ≤ h42.size := Nat.le_trans Z34 (Keep.of_wr W42).1
  have K42 : Keep h0 h42 [a0] := K34.wr W42 (Or.inl (List.mem_of_getElem? (i := 0) rfl))
  have fc43 : Fld Z h42 a0 "com/example/xixi/xixi/consumer/PullRequest" "commitPlanned" "Ljava/util/concurrent/atomic/AtomicBoolean;" (.ref b8_5) := (fc35.other W42 (Or.inr (slot_ne (Or.inr (hw _ (List.mem_of_getElem? (i := 57) rfl))) (Or.inl (hw _ (List.mem_of_getElem? (i := 96) rfl))) (by decide) (t := (.object "java/util/concurrent/atomic/AtomicBoolean")) (t' := (.object "com/example/xixi/xixi/consumer/QueueCache")) (by decide) (by decide))))
  have fc44 : Fld Z h42 a0 "com/example/xixi/xixi/consumer/PullRequest" "queue" "Lcom/example/xixi/xixi/consumer/TopicQueue;" (.ref a1) := (fc36.other W42 (Or.inr (slot_ne (Or.inr (hw _ (List.mem_of_getElem? (i := 59) rfl))) (Or.inl (hw _ (List.mem_of_getElem? (i := 96) rfl))) (by decide) (t := (.object "com/example/xixi/xixi/consumer/TopicQueue")) (t' := (.object "com/example/xixi/xixi/consumer/QueueCache")) (by decide) (by decide))))
  have fc45 : Fld Z h42 a0 "com/example/xixi/xixi/consumer/PullRequest" "cache" "Lcom/example/xixi/xixi/consumer/QueueCache;" (.ref b8_21) := (fc37.same W42)
  have fc46 : Fld Z h42 a0 "com/example/xixi/xixi/consumer/PullRequest" "heldBack" "Z" (.int (0 : Int32)) := (fc38.other W42 (Or.inr (slot_ne (Or.inl (hw _ (List.mem_of_getElem? (i := 103) rfl))) (Or.inl (hw _ (List.mem_of_getElem? (i := 96) rfl))) (by decide) (t := .boolean) (t' := (.object "com/example/xixi/xixi/consumer/QueueCache")) (by decide) (by decide))))
  have fc47 : Exa Z h42 a0 "com/example/xixi/xixi/consumer/PullRequest" := (fc39.wr W42)
  have fc48 : Exa Z h42 b8_5 "java/util/concurrent/atomic/AtomicBoolean" := (fc40.wr W42)
  have fc49 : Exa Z h42 b8_21 "com/example/xixi/xixi/consumer/QueueCache" := (fc41.wr W42)
  refine OEnd.go (g' := (mkF m 32 #[.val (.ref a0), .val (.ref a1), .val (.long q2), .second] [])) st42 ?_
  exact OEnd.void X42 hx Bd.returns hlk (hb hby d8_32) ⟨rfl, N42, (own_at e42 (P := fun h => Keep h0 h [a0]) K42), (own_at e42 (P := fun h => Exa Z h a0 "com/example/xixi/xixi/consumer/PullRequest") fc47), (own_at e42 (P := fun h => Fld Z h a0 "com/example/xixi/xixi/consumer/PullRequest" "heldBack" "Z" (.int (0 : Int32))) fc46)⟩ (by decide) (by decide)
theorem d13_0 : decode prog_18_method_7_code 0 = .ok (.iload_n 1, 1) := by decide +kernel
theorem d13_1 : decode prog_18_method_7_code 1 = .ok (.ifCond .eq 14, 3) := by decide +kernel
theorem d13_15 : decode prog_18_method_7_code 15 = .ok (.iconst 0, 1) := by decide +kernel
theorem d13_4 : decode prog_18_method_7_code 4 = .ok (.aload_n 0, 1) := by decide +kernel
theorem d13_5 : decode prog_18_method_7_code 5 = .ok (.getfield 43, 3) := by decide +kernel
theorem d13_8 : decode prog_18_method_7_code 8 = .ok (.ifCond .ne 7, 3) := by decide +kernel
theorem d13_11 : decode prog_18_method_7_code 11 = .ok (.iconst 1, 1) := by decide +kernel
theorem d13_12 : decode prog_18_method_7_code 12 = .ok (.goto 4, 3) := by decide +kernel
theorem d13_16 : decode prog_18_method_7_code 16 = .ok (.istore_n 2, 1) := by decide +kernel
theorem d13_17 : decode prog_18_method_7_code 17 = .ok (.aload_n 0, 1) := by decide +kernel
theorem d13_18 : decode prog_18_method_7_code 18 = .ok (.iload_n 1, 1) := by decide +kernel
theorem d13_19 : decode prog_18_method_7_code 19 = .ok (.putfield 43, 3) := by decide +kernel
theorem d13_22 : decode prog_18_method_7_code 22 = .ok (.iload_n 2, 1) := by decide +kernel
theorem d13_23 : decode prog_18_method_7_code 23 = .ok (.ireturn, 1) := by decide +kernel
def v13_16 (p1 : Int32) (w0 : Int32) : Int32 := (if p1 = (0 : Int32) then (0 : Int32) else (if w0 = (0 : Int32) then (1 : Int32) else (0 : Int32)))
def f13 (p1 : Int32) (w0 : Int32) : Int32 := nar .boolean (v13_16 p1 w0)
theorem ef_13 (m : MethodId) (x0 : Addr) (x1 : Int32) : entryFrame m #[(.ref x0), (.int x1)] 3 = mkF m 0 #[.val (.ref x0), .val (.int x1), .unset] [] := by first | (simp [entryFrame, mkF, argsToLocals, Value.category]; done) | rfl
def Q13 (Z : State) (a0 : Addr) (p1 : Int32) (w0 : Int32) (h0 : Heap) (n0 : Nat) (v : Option Value) (h : Heap) (L : List Loc) : Prop := v = some (.int (f13 p1 w0)) ∧ Fr n0 L ∧ Keep h0 h [a0] ∧ Exa Z h a0 "com/example/xixi/xixi/consumer/PullRequest" ∧ Fld Z h a0 "com/example/xixi/xixi/consumer/PullRequest" "heldBack" "Z" (.int (nar .boolean p1))
set_option maxRecDepth 65536 in
set_option maxHeartbeats 40000000 in
theorem rm13 (l : Launch) (Z : State) (aZ : Array Value) (hw : ∀ d ∈ tables_1, d.before aZ Z = true) (ws : List Jvm.Cond) (a0 : Addr) (p1 : Int32) (w0 : Int32) (h0 : Heap) (n0 : Nat) (Z0 : n0 ≤ h0.size) (Fb : Fld Z h0 a0 "com/example/xixi/xixi/consumer/PullRequest" "heldBack" "Z" (.int w0)) (E0 : Exa Z h0 a0 "com/example/xixi/xixi/consumer/PullRequest") (g0 : n0 ≤ a0) :
    MetFree l (⟨"com/example/xixi/xixi/consumer/PullRequest", "holdBack", "(Z)Z"⟩ : MethodName) (head1 (Jvm.Cond.code (⟨"com/example/xixi/xixi/consumer/PullRequest", "holdBack", "(Z)Z"⟩ : MethodName) prog_18_method_7_code 3 (some .boolean) :: ws) ({ frames := 0, cells := 0, slots := 0, locals := 0 } : Room)) (fun a U => a = #[(.ref a0), (.int p1)] ∧ Z.Warmed39 U.vm ∧ U.heap = h0) (fun _ _ _ _ _ => True) (fun _ U o U' => ∃ v L, o = .returned v ∧ Q13 Z a0 p1 w0 h0 n0 v U'.heap L ∧ FrameEnd U o U' L ({ frames := 0, cells := 0, slots := 0, locals := 0 } : Room).cells ({ frames := 0, cells := 0, slots := 0, locals := 0 } : Room).slots) := by
  refine MetFree.of_bodySF (plainFor_of_name pn_com_example_xixi_xixi_consumer_PullRequest) hisR ?_
  intro p e s m args below meth c s₁ Bd hml0 hP hK
  obtain ⟨rfl, hZ, hh⟩ := hP
  have hx := Bd.exec
  have hby := Bd.bytes
  have hlk : meth.locks = false := BodyLoose.notSynchronized Bd
  have hml : c.maxLocals = 3 := hml0
  have hown : s.vm.findClass "com/example/xixi/xixi/consumer/PullRequest" = some m.cls := findClass_of_methodNamed Bd.named
  have hnm := (name_of_methodNamed Bd.named Bd.method).1
  have X0 : Stand p l e ({ frames := 0, cells := 0, slots := 0, locals := 0 } : Room) s m #[(.ref a0), (.int p1)] below meth c s₁ [] 0 0 := Stand.of_body Bd
  have e0 : s₁.heap = h0 := by rw [← hh, Bd.state]; rfl
  have N0 := Fr.nil n0
  have K0 : Keep h0 h0 [a0] := Keep.refl _ _
  show OEnd p e below s s₁ (entryFrame m #[(.ref a0), (.int p1)] 3) (Q13 Z a0 p1 w0 h0 n0) ({ frames := 0, cells := 0, slots := 0, locals := 0 } : Room).cells ({ frames := 0, cells := 0, slots := 0, locals := 0 } : Room).slots
  refine OEnd.go (g' := (mkF m 0 #[.val (.ref a0), .val (.int p1), .unset] [])) (fun _ k => castTop (ef_13 m a0 p1) k) ?_
  refine OEnd.go (T' := s₁) (g' := (mkF m 1 #[.val (.ref a0), .val (.int p1), .unset] [(.int p1)])) (fun t k => ?_) ?_
  · show Steps p.tables e below (s₁.setTop (mkF m 0 #[.val (.ref a0), .val (.int p1), .unset] [])) t
    refine XS.iloadN X0.here hx rfl (hb hby d13_0) rfl ?_
    show Steps p.tables e below (s₁.setTop (mkF m 1 #[.val (.ref a0), .val (.int p1), .unset] [(.int p1)])) t
    exact k
  obtain ⟨T2, L2, X2, e2, N2, st2⟩ : ORch p l e ({ frames := 0, cells := 0, slots := 0, locals := 0 } : Room) s m #[(.ref a0), (.int p1)] below meth c n0 s₁ (mkF m 1 #[.val (.ref a0), .val (.int p1), .unset] [(.int p1)]) h0 (mkF m 16 #[.val (.ref a0), .val (.int p1), .unset] [(.int (if p1 = (0 : Int32) then (0 : Int32) else (if w0 = (0 : Int32) then (1 : Int32) else (0 : Int32))))]) 0 0 := by
    by_cases hc1 : p1 = (0 : Int32)
    · skip
      refine ORch.go (T' := s₁) (g' := (mkF m 15 #[.val (.ref a0), .val (.int p1), .unset] [])) (fun t k => ?_) ?_
      · show Steps p.tables e below (s₁.setTop (mkF m 1 #[.val (.ref a0), .val (.int p1), .unset] [(.int p1)])) t
        refine XS.ifYes X0.here hx rfl (pc0 := 1) (pc' := 15) rfl (hb hby d13_1) rfl ((if0 _ _).trans (teq (hc1)).1) (by decide) (by decide) ?_
        show Steps p.tables e below (s₁.setTop (mkF m 15 #[.val (.ref a0), .val (.int p1), .unset] [])) t
        exact k
      refine ORch.go (T' := s₁) (g' := (mkF m 16 #[.val (.ref a0), .val (.int p1), .unset] [(.int (0 : Int32))])) (fun t k => ?_) ?_
      · show Steps p.tables e below (s₁.setTop (mkF m 15 #[.val (.ref a0), .val (.int p1), .unset] [])) t
        refine XS.iconst X0.here hx rfl (hb hby d13_15) ?_
        show Steps p.tables e below (s₁.setTop (mkF m 16 #[.val (.ref a0), .val (.int p1), .unset] [(.int (0 : Int32))])) t
        exact k
      exact ⟨_, _, X0, e0, N0, fun t k => (own_k (f := fun (z : Int32) => mkF m 16 #[.val (.ref a0), .val (.int p1), .unset] [(.int z)]) (if_pos hc1) k)⟩
    · skip
      refine ORch.go (T' := s₁) (g' := (mkF m 4 #[.val (.ref a0), .val (.int p1), .unset] [])) (fun t k => ?_) ?_
      · show Steps p.tables e below (s₁.setTop (mkF m 1 #[.val (.ref a0), .val (.int p1), .unset] [(.int p1)])) t
        refine XS.ifNo X0.here hx rfl (hb hby d13_1) rfl ((if0 _ _).trans (feq (hc1)).1) ?_
        show Steps p.tables e below (s₁.setTop (mkF m 4 #[.val (.ref a0), .val (.int p1), .unset] [])) t
        exact k
      refine ORch.go (T' := s₁) (g' := (mkF m 5 #[.val (.ref a0), .val (.int p1), .unset] [(.ref a0)])) (fun t k => ?_) ?_
      · show Steps p.tables e below (s₁.setTop (mkF m 4 #[.val (.ref a0), .val (.int p1), .unset] [])) t
        refine XS.aloadN X0.here hx rfl (hb hby d13_4) rfl rfl ?_
        show Steps p.tables e below (s₁.setTop (mkF m 5 #[.val (.ref a0), .val (.int p1), .unset] [(.ref a0)])) t
        exact k
      obtain ⟨T3, X3, e3, st3⟩ := getF X0 hx hZ hown (host := "") (Or.inl (hw _ (List.mem_of_getElem? (i := 102) rfl))) Via.refl e0 Fb (g := (mkF m 5 #[.val (.ref a0), .val (.int p1), .unset] [(.ref a0)])) rfl rfl (hb hby d13_5)
      refine ORch.go (g' := (mkF m 8 #[.val (.ref a0), .val (.int p1), .unset] [(.int w0)])) st3 ?_
      by_cases hc4 : w0 = (0 : Int32)
      · skip
        refine ORch.go (T' := T3) (g' := (mkF m 11 #[.val (.ref a0), .val (.int p1), .unset] [])) (fun t k => ?_) ?_
        · show Steps p.tables e below (T3.setTop (mkF m 8 #[.val (.ref a0), .val (.int p1), .unset] [(.int w0)])) t
          refine XS.ifNo X3.here hx rfl (hb hby d13_8) rfl ((if0 _ _).trans (teq (hc4)).2) ?_
          show Steps p.tables e below (T3.setTop (mkF m 11 #[.val (.ref a0), .val (.int p1), .unset] [])) t
          exact k
        refine ORch.go (T' := T3) (g' := (mkF m 16 #[.val (.ref a0), .val (.int p1), .unset] [(.int (1 : Int32))])) (fun t k => ?_) ?_
        · show Steps p.tables e below (T3.setTop (mkF m 11 #[.val (.ref a0), .val (.int p1), .unset] [])) t
          refine XS.iconst X3.here hx rfl (hb hby d13_11) ?_
          show Steps p.tables e below (T3.setTop (mkF m 12 #[.val (.ref a0), .val (.int p1), .unset] [(.int (1 : Int32))])) t
          refine XS.goto X3.here hx rfl (pc0 := 12) (pc' := 16) rfl (hb hby d13_12) (by decide) (by decide) ?_
          show Steps p.tables e below (T3.setTop (mkF m 16 #[.val (.ref a0), .val (.int p1), .unset] [(.int (1 : Int32))])) t
          exact k
        exact ⟨_, _, X3, e3, N0, fun t k => (own_k (f := fun (z : Int32) => mkF m 16 #[.val (.ref a0), .val (.int p1), .unset] [(.int z)]) ((if_neg hc1).trans (if_pos hc4)) k)⟩
      · skip
        refine ORch.go (T' := T3) (g' := (mkF m 15 #[.val (.ref a0), .val (.int p1), .unset] [])) (fun t k => ?_) ?_
        · show Steps p.tables e below (T3.setTop (mkF m 8 #[.val (.ref a0), .val (.int p1), .unset] [(.int w0)])) t
          refine XS.ifYes X3.here hx rfl (pc0 := 8) (pc' := 15) rfl (hb hby d13_8) rfl ((if0 _ _).trans (feq (hc4)).2) (by decide) (by decide) ?_
          show Steps p.tables e below (T3.setTop (mkF m 15 #[.val (.ref a0), .val (.int p1), .unset] [])) t
          exact k
        refine ORch.go (T' := T3) (g' := (mkF m 16 #[.val (.ref a0), .val (.int p1), .unset] [(.int (0 : Int32))])) (fun t k => ?_) ?_
        · show Steps p.tables e below (T3.setTop (mkF m 15 #[.val (.ref a0), .val (.int p1), .unset] [])) t
          refine XS.iconst X3.here hx rfl (hb hby d13_15) ?_
          show Steps p.tables e below (T3.setTop (mkF m 16 #[.val (.ref a0), .val (.int p1), .unset] [(.int (0 : Int32))])) t
          exact k
        exact ⟨_, _, X3, e3, N0, fun t k => (own_k (f := fun (z : Int32) => mkF m 16 #[.val (.ref a0), .val (.int p1), .unset] [(.int z)]) ((if_neg hc1).trans (if_neg hc4)) k)⟩
  refine OEnd.go (g' := (mkF m 16 #[.val (.ref a0), .val (.int p1), .unset] [(.int (if p1 = (0 : Int32) then (0 : Int32) else (if w0 = (0 : Int32) then (1 : Int32) else (0 : Int32))))])) st2 ?_
  refine OEnd.go (T' := T2) (g' := (mkF m 19 #[.val (.ref a0), .val (.int p1), .val (.int (v13_16 p1 w0))] [(.int p1), (.ref a0)])) (fun t k => ?_) ?_
  · show Steps p.tables e below (T2.setTop (mkF m 16 #[.val (.ref a0), .val (.int p1), .unset] [(.int (if p1 = (0 : Int32) then (0 : Int32) else (if w0 = (0 : Int32) then (1 : Int32) else (0 : Int32))))])) t
    refine XS.istoreN X2.here hx rfl (hb hby d13_16) rfl (l' := #[.val (.ref a0), .val (.int p1), .val (.int (v13_16 p1 w0))]) rfl ?_
    show Steps p.tables e below (T2.setTop (mkF m 17 #[.val (.ref a0), .val (.int p1), .val (.int (v13_16 p1 w0))] [])) t
    refine XS.aloadN X2.here hx rfl (hb hby d13_17) rfl rfl ?_
    show Steps p.tables e below (T2.setTop (mkF m 18 #[.val (.ref a0), .val (.int p1), .val (.int (v13_16 p1 w0))] [(.ref a0)])) t
    refine XS.iloadN X2.here hx rfl (hb hby d13_18) rfl ?_
    show Steps p.tables e below (T2.setTop (mkF m 19 #[.val (.ref a0), .val (.int p1), .val (.int (v13_16 p1 w0))] [(.int p1), (.ref a0)])) t
    exact k
  obtain ⟨T5, h5, X5, e5, W5, st5⟩ := putFN X2 hx hZ hown (hw _ (List.mem_of_getElem? (i := 102) rfl)) Via.refl e2 Fb E0 (Or.inl (hw _ (List.mem_of_getElem? (i := 103) rfl))) (hw _ (List.mem_of_getElem? (i := 43) rfl)) (ty := .boolean) (v' := (.int (nar .boolean p1))) (by decide) rfl (fits_nar_bool _) (g := (mkF m 19 #[.val (.ref a0), .val (.int p1), .val (.int (v13_16 p1 w0))] [(.int p1), (.ref a0)])) rfl rfl (hb hby d13_19)
  have N5 := Fr.snoc X5 N2 g0
  have Z5 : n0 ≤ h5.size := Nat.le_trans Z0 (Keep.of_wr W5).1
  have K5 : Keep h0 h5 [a0] := K0.wr W5 (Or.inl (List.mem_of_getElem? (i := 0) rfl))
  have fc6 : Fld Z h5 a0 "com/example/xixi/xixi/consumer/PullRequest" "heldBack" "Z" (.int (nar .boolean p1)) := (Fb.same W5)
  have fc7 : Exa Z h5 a0 "com/example/xixi/xixi/consumer/PullRequest" := (E0.wr W5)
  refine OEnd.go (g' := (mkF m 22 #[.val (.ref a0), .val (.int p1), .val (.int (v13_16 p1 w0))] [])) st5 ?_
  refine OEnd.go (T' := T5) (g' := (mkF m 23 #[.val (.ref a0), .val (.int p1), .val (.int (v13_16 p1 w0))] [(.int (v13_16 p1 w0))])) (fun t k => ?_) ?_
  · show Steps p.tables e below (T5.setTop (mkF m 22 #[.val (.ref a0), .val (.int p1), .val (.int (v13_16 p1 w0))] [])) t
    refine XS.iloadN X5.here hx rfl (hb hby d13_22) rfl ?_
    show Steps p.tables e below (T5.setTop (mkF m 23 #[.val (.ref a0), .val (.int p1), .val (.int (v13_16 p1 w0))] [(.int (v13_16 p1 w0))])) t
    exact k
  exact OEnd.nar X5 hx (t := .boolean) Bd.returns (by simp) hlk (hb hby d13_23) ⟨rfl, N5, (own_at e5 (P := fun h => Keep h0 h [a0]) K5), (own_at e5 (P := fun h => Exa Z h a0 "com/example/xixi/xixi/consumer/PullRequest") fc7), (own_at e5 (P := fun h => Fld Z h a0 "com/example/xixi/xixi/consumer/PullRequest" "heldBack" "Z" (.int (nar .boolean p1))) fc6)⟩ (by decide) (by decide)
theorem pd__C_Ljava_lang_String_ : parseMethodDescriptor "(C)Ljava/lang/String;" = some ⟨[.char], some (.object "java/lang/String")⟩ := by decide +kernel
theorem pd__Ljava_lang_String_I_V : parseMethodDescriptor "(Ljava/lang/String;I)V" = some ⟨[(.object "java/lang/String"), .int], none⟩ := by decide +kernel
theorem pd__Lcom_example_xixi_xixi_consumer_TopicQueue_J_V : parseMethodDescriptor "(Lcom/example/xixi/xixi/consumer/TopicQueue;J)V" = some ⟨[(.object "com/example/xixi/xixi/consumer/TopicQueue"), .long], none⟩ := by decide +kernel
theorem pd__Z_Z : parseMethodDescriptor "(Z)Z" = some ⟨[.boolean], some .boolean⟩ := by decide +kernel
def v0_43 (p0 : Int32) (p1 : Int32) (q2 : Int64) (p3 : Int32) (w0 : Int32) : Int32 := (if (p0 &&& (1 : Int32)) = (0 : Int32) then (0 : Int32) else (1 : Int32))
def v0_56 (p0 : Int32) (p1 : Int32) (q2 : Int64) (p3 : Int32) (w0 : Int32) : Int32 := (if (p0 &&& (2 : Int32)) = (0 : Int32) then (0 : Int32) else (1 : Int32))
def v0_69 (p0 : Int32) (p1 : Int32) (q2 : Int64) (p3 : Int32) (w0 : Int32) : Int32 := (if (p0 &&& (4 : Int32)) = (0 : Int32) then (0 : Int32) else (1 : Int32))
def v0_83 (p0 : Int32) (p1 : Int32) (q2 : Int64) (p3 : Int32) (w0 : Int32) : Int32 := (if (p0 &&& (8 : Int32)) = (0 : Int32) then (0 : Int32) else (1 : Int32))
def v0_97 (p0 : Int32) (p1 : Int32) (q2 : Int64) (p3 : Int32) (w0 : Int32) : Int32 := (if (p0 &&& (16 : Int32)) = (0 : Int32) then (0 : Int32) else (1 : Int32))
def v0_106 (p0 : Int32) (p1 : Int32) (q2 : Int64) (p3 : Int32) (w0 : Int32) : Int32 := (f13 (v0_43 p0 p1 q2 p3 w0) (0 : Int32))
def v0_115 (p0 : Int32) (p1 : Int32) (q2 : Int64) (p3 : Int32) (w0 : Int32) : Int32 := (f13 (v0_56 p0 p1 q2 p3 w0) (nar .boolean (v0_43 p0 p1 q2 p3 w0)))
def v0_124 (p0 : Int32) (p1 : Int32) (q2 : Int64) (p3 : Int32) (w0 : Int32) : Int32 := (f13 (v0_69 p0 p1 q2 p3 w0) (nar .boolean (v0_56 p0 p1 q2 p3 w0)))
def v0_133 (p0 : Int32) (p1 : Int32) (q2 : Int64) (p3 : Int32) (w0 : Int32) : Int32 := (f13 (v0_83 p0 p1 q2 p3 w0) (nar .boolean (v0_69 p0 p1 q2 p3 w0)))
def v0_142 (p0 : Int32) (p1 : Int32) (q2 : Int64) (p3 : Int32) (w0 : Int32) : Int32 := (f13 (v0_97 p0 p1 q2 p3 w0) (nar .boolean (v0_83 p0 p1 q2 p3 w0)))
def v0_156 (p0 : Int32) (p1 : Int32) (q2 : Int64) (p3 : Int32) (w0 : Int32) : Int32 := (if (v0_106 p0 p1 q2 p3 w0) = (v0_43 p0 p1 q2 p3 w0) then (1 : Int32) else (0 : Int32))
def v0_175_s0 (p0 : Int32) (p1 : Int32) (q2 : Int64) (p3 : Int32) (w0 : Int32) : Int32 := (if (v0_56 p0 p1 q2 p3 w0) = (0 : Int32) then (0 : Int32) else (if (v0_43 p0 p1 q2 p3 w0) = (0 : Int32) then (1 : Int32) else (0 : Int32)))
def v0_183 (p0 : Int32) (p1 : Int32) (q2 : Int64) (p3 : Int32) (w0 : Int32) : Int32 := (if (v0_115 p0 p1 q2 p3 w0) = (v0_175_s0 p0 p1 q2 p3 w0) then (1 : Int32) else (0 : Int32))
def v0_202_s0 (p0 : Int32) (p1 : Int32) (q2 : Int64) (p3 : Int32) (w0 : Int32) : Int32 := (if (v0_69 p0 p1 q2 p3 w0) = (0 : Int32) then (0 : Int32) else (if (v0_56 p0 p1 q2 p3 w0) = (0 : Int32) then (1 : Int32) else (0 : Int32)))
def v0_210 (p0 : Int32) (p1 : Int32) (q2 : Int64) (p3 : Int32) (w0 : Int32) : Int32 := (if (v0_124 p0 p1 q2 p3 w0) = (v0_202_s0 p0 p1 q2 p3 w0) then (1 : Int32) else (0 : Int32))
def v0_229_s0 (p0 : Int32) (p1 : Int32) (q2 : Int64) (p3 : Int32) (w0 : Int32) : Int32 := (if (v0_83 p0 p1 q2 p3 w0) = (0 : Int32) then (0 : Int32) else (if (v0_69 p0 p1 q2 p3 w0) = (0 : Int32) then (1 : Int32) else (0 : Int32)))
def v0_237 (p0 : Int32) (p1 : Int32) (q2 : Int64) (p3 : Int32) (w0 : Int32) : Int32 := (if (v0_133 p0 p1 q2 p3 w0) = (v0_229_s0 p0 p1 q2 p3 w0) then (1 : Int32) else (0 : Int32))
def v0_256_s0 (p0 : Int32) (p1 : Int32) (q2 : Int64) (p3 : Int32) (w0 : Int32) : Int32 := (if (v0_97 p0 p1 q2 p3 w0) = (0 : Int32) then (0 : Int32) else (if (v0_83 p0 p1 q2 p3 w0) = (0 : Int32) then (1 : Int32) else (0 : Int32)))
def v0_264 (p0 : Int32) (p1 : Int32) (q2 : Int64) (p3 : Int32) (w0 : Int32) : Int32 := (if (v0_142 p0 p1 q2 p3 w0) = (v0_256_s0 p0 p1 q2 p3 w0) then (1 : Int32) else (0 : Int32))
def la0_0 (p0 : Int32) (p1 : Int32) (q2 : Int64) (p3 : Int32) : Array Slot := #[.val (.int p0), .val (.int p1), .val (.long q2), .second, .val (.int p3), .unset, .unset, .unset, .unset, .unset, .unset, .unset, .unset, .unset, .unset, .unset, .unset, .unset, .unset, .unset, .unset, .unset]
def la0_1 (p0 : Int32) (p1 : Int32) (q2 : Int64) (p3 : Int32) (b0_0 : Addr) : Array Slot := #[.val (.int p0), .val (.int p1), .val (.long q2), .second, .val (.int p3), .val (.ref b0_0), .unset, .unset, .unset, .unset, .unset, .unset, .unset, .unset, .unset, .unset, .unset, .unset, .unset, .unset, .unset, .unset]
def la0_2 (p0 : Int32) (p1 : Int32) (q2 : Int64) (p3 : Int32) (b0_0 : Addr) (b0_20 : Addr) : Array Slot := #[.val (.int p0), .val (.int p1), .val (.long q2), .second, .val (.int p3), .val (.ref b0_0), .val (.ref b0_20), .unset, .unset, .unset, .unset, .unset, .unset, .unset, .unset, .unset, .unset, .unset, .unset, .unset, .unset, .unset]
def la0_3 (p0 : Int32) (p1 : Int32) (q2 : Int64) (p3 : Int32) (w0 : Int32) (b0_0 : Addr) (b0_20 : Addr) : Array Slot := #[.val (.int p0), .val (.int p1), .val (.long q2), .second, .val (.int p3), .val (.ref b0_0), .val (.ref b0_20), .val (.int (v0_43 p0 p1 q2 p3 w0)), .unset, .unset, .unset, .unset, .unset, .unset, .unset, .unset, .unset, .unset, .unset, .unset, .unset, .unset]
def la0_4 (p0 : Int32) (p1 : Int32) (q2 : Int64) (p3 : Int32) (w0 : Int32) (b0_0 : Addr) (b0_20 : Addr) : Array Slot := #[.val (.int p0), .val (.int p1), .val (.long q2), .second, .val (.int p3), .val (.ref b0_0), .val (.ref b0_20), .val (.int (v0_43 p0 p1 q2 p3 w0)), .val (.int (v0_56 p0 p1 q2 p3 w0)), .unset, .unset, .unset, .unset, .unset, .unset, .unset, .unset, .unset, .unset, .unset, .unset, .unset]
def la0_5 (p0 : Int32) (p1 : Int32) (q2 : Int64) (p3 : Int32) (w0 : Int32) (b0_0 : Addr) (b0_20 : Addr) : Array Slot := #[.val (.int p0), .val (.int p1), .val (.long q2), .second, .val (.int p3), .val (.ref b0_0), .val (.ref b0_20), .val (.int (v0_43 p0 p1 q2 p3 w0)), .val (.int (v0_56 p0 p1 q2 p3 w0)), .val (.int (v0_69 p0 p1 q2 p3 w0)), .unset, .unset, .unset, .unset, .unset, .unset, .unset, .unset, .unset, .unset, .unset, .unset]
def la0_6 (p0 : Int32) (p1 : Int32) (q2 : Int64) (p3 : Int32) (w0 : Int32) (b0_0 : Addr) (b0_20 : Addr) : Array Slot := #[.val (.int p0), .val (.int p1), .val (.long q2), .second, .val (.int p3), .val (.ref b0_0), .val (.ref b0_20), .val (.int (v0_43 p0 p1 q2 p3 w0)), .val (.int (v0_56 p0 p1 q2 p3 w0)), .val (.int (v0_69 p0 p1 q2 p3 w0)), .val (.int (v0_83 p0 p1 q2 p3 w0)), .unset, .unset, .unset, .unset, .unset, .unset, .unset, .unset, .unset, .unset, .unset]
def la0_7 (p0 : Int32) (p1 : Int32) (q2 : Int64) (p3 : Int32) (w0 : Int32) (b0_0 : Addr) (b0_20 : Addr) : Array Slot := #[.val (.int p0), .val (.int p1), .val (.long q2), .second, .val (.int p3), .val (.ref b0_0), .val (.ref b0_20), .val (.int (v0_43 p0 p1 q2 p3 w0)), .val (.int (v0_56 p0 p1 q2 p3 w0)), .val (.int (v0_69 p0 p1 q2 p3 w0)), .val (.int (v0_83 p0 p1 q2 p3 w0)), .val (.int (v0_97 p0 p1 q2 p3 w0)), .unset, .unset, .unset, .unset, .unset, .unset, .unset, .unset, .unset, .unset]
def la0_8 (p0 : Int32) (p1 : Int32) (q2 : Int64) (p3 : Int32) (w0 : Int32) (b0_0 : Addr) (b0_20 : Addr) : Array Slot := #[.val (.int p0), .val (.int p1), .val (.long q2), .second, .val (.int p3), .val (.ref b0_0), .val (.ref b0_20), .val (.int (v0_43 p0 p1 q2 p3 w0)), .val (.int (v0_56 p0 p1 q2 p3 w0)), .val (.int (v0_69 p0 p1 q2 p3 w0)), .val (.int (v0_83 p0 p1 q2 p3 w0)), .val (.int (v0_97 p0 p1 q2 p3 w0)), .val (.int (v0_106 p0 p1 q2 p3 w0)), .unset, .unset, .unset, .unset, .unset, .unset, .unset, .unset, .unset]
def la0_9 (p0 : Int32) (p1 : Int32) (q2 : Int64) (p3 : Int32) (w0 : Int32) (b0_0 : Addr) (b0_20 : Addr) : Array Slot := #[.val (.int p0), .val (.int p1), .val (.long q2), .second, .val (.int p3), .val (.ref b0_0), .val (.ref b0_20), .val (.int (v0_43 p0 p1 q2 p3 w0)), .val (.int (v0_56 p0 p1 q2 p3 w0)), .val (.int (v0_69 p0 p1 q2 p3 w0)), .val (.int (v0_83 p0 p1 q2 p3 w0)), .val (.int (v0_97 p0 p1 q2 p3 w0)), .val (.int (v0_106 p0 p1 q2 p3 w0)), .val (.int (v0_115 p0 p1 q2 p3 w0)), .unset, .unset, .unset, .unset, .unset, .unset, .unset, .unset]
def la0_10 (p0 : Int32) (p1 : Int32) (q2 : Int64) (p3 : Int32) (w0 : Int32) (b0_0 : Addr) (b0_20 : Addr) : Array Slot := #[.val (.int p0), .val (.int p1), .val (.long q2), .second, .val (.int p3), .val (.ref b0_0), .val (.ref b0_20), .val (.int (v0_43 p0 p1 q2 p3 w0)), .val (.int (v0_56 p0 p1 q2 p3 w0)), .val (.int (v0_69 p0 p1 q2 p3 w0)), .val (.int (v0_83 p0 p1 q2 p3 w0)), .val (.int (v0_97 p0 p1 q2 p3 w0)), .val (.int (v0_106 p0 p1 q2 p3 w0)), .val (.int (v0_115 p0 p1 q2 p3 w0)), .val (.int (v0_124 p0 p1 q2 p3 w0)), .unset, .unset, .unset, .unset, .unset, .unset, .unset]
def la0_11 (p0 : Int32) (p1 : Int32) (q2 : Int64) (p3 : Int32) (w0 : Int32) (b0_0 : Addr) (b0_20 : Addr) : Array Slot := #[.val (.int p0), .val (.int p1), .val (.long q2), .second, .val (.int p3), .val (.ref b0_0), .val (.ref b0_20), .val (.int (v0_43 p0 p1 q2 p3 w0)), .val (.int (v0_56 p0 p1 q2 p3 w0)), .val (.int (v0_69 p0 p1 q2 p3 w0)), .val (.int (v0_83 p0 p1 q2 p3 w0)), .val (.int (v0_97 p0 p1 q2 p3 w0)), .val (.int (v0_106 p0 p1 q2 p3 w0)), .val (.int (v0_115 p0 p1 q2 p3 w0)), .val (.int (v0_124 p0 p1 q2 p3 w0)), .val (.int (v0_133 p0 p1 q2 p3 w0)), .unset, .unset, .unset, .unset, .unset, .unset]
def la0_12 (p0 : Int32) (p1 : Int32) (q2 : Int64) (p3 : Int32) (w0 : Int32) (b0_0 : Addr) (b0_20 : Addr) : Array Slot := #[.val (.int p0), .val (.int p1), .val (.long q2), .second, .val (.int p3), .val (.ref b0_0), .val (.ref b0_20), .val (.int (v0_43 p0 p1 q2 p3 w0)), .val (.int (v0_56 p0 p1 q2 p3 w0)), .val (.int (v0_69 p0 p1 q2 p3 w0)), .val (.int (v0_83 p0 p1 q2 p3 w0)), .val (.int (v0_97 p0 p1 q2 p3 w0)), .val (.int (v0_106 p0 p1 q2 p3 w0)), .val (.int (v0_115 p0 p1 q2 p3 w0)), .val (.int (v0_124 p0 p1 q2 p3 w0)), .val (.int (v0_133 p0 p1 q2 p3 w0)), .val (.int (v0_142 p0 p1 q2 p3 w0)), .unset, .unset, .unset, .unset, .unset]
def la0_13 (p0 : Int32) (p1 : Int32) (q2 : Int64) (p3 : Int32) (w0 : Int32) (b0_0 : Addr) (b0_20 : Addr) : Array Slot := #[.val (.int p0), .val (.int p1), .val (.long q2), .second, .val (.int p3), .val (.ref b0_0), .val (.ref b0_20), .val (.int (v0_43 p0 p1 q2 p3 w0)), .val (.int (v0_56 p0 p1 q2 p3 w0)), .val (.int (v0_69 p0 p1 q2 p3 w0)), .val (.int (v0_83 p0 p1 q2 p3 w0)), .val (.int (v0_97 p0 p1 q2 p3 w0)), .val (.int (v0_106 p0 p1 q2 p3 w0)), .val (.int (v0_115 p0 p1 q2 p3 w0)), .val (.int (v0_124 p0 p1 q2 p3 w0)), .val (.int (v0_133 p0 p1 q2 p3 w0)), .val (.int (v0_142 p0 p1 q2 p3 w0)), .val (.int (v0_156 p0 p1 q2 p3 w0)), .unset, .unset, .unset, .unset]
def la0_14 (p0 : Int32) (p1 : Int32) (q2 : Int64) (p3 : Int32) (w0 : Int32) (b0_0 : Addr) (b0_20 : Addr) : Array Slot := #[.val (.int p0), .val (.int p1), .val (.long q2), .second, .val (.int p3), .val (.ref b0_0), .val (.ref b0_20), .val (.int (v0_43 p0 p1 q2 p3 w0)), .val (.int (v0_56 p0 p1 q2 p3 w0)), .val (.int (v0_69 p0 p1 q2 p3 w0)), .val (.int (v0_83 p0 p1 q2 p3 w0)), .val (.int (v0_97 p0 p1 q2 p3 w0)), .val (.int (v0_106 p0 p1 q2 p3 w0)), .val (.int (v0_115 p0 p1 q2 p3 w0)), .val (.int (v0_124 p0 p1 q2 p3 w0)), .val (.int (v0_133 p0 p1 q2 p3 w0)), .val (.int (v0_142 p0 p1 q2 p3 w0)), .val (.int (v0_156 p0 p1 q2 p3 w0)), .val (.int (v0_183 p0 p1 q2 p3 w0)), .unset, .unset, .unset]
def la0_15 (p0 : Int32) (p1 : Int32) (q2 : Int64) (p3 : Int32) (w0 : Int32) (b0_0 : Addr) (b0_20 : Addr) : Array Slot := #[.val (.int p0), .val (.int p1), .val (.long q2), .second, .val (.int p3), .val (.ref b0_0), .val (.ref b0_20), .val (.int (v0_43 p0 p1 q2 p3 w0)), .val (.int (v0_56 p0 p1 q2 p3 w0)), .val (.int (v0_69 p0 p1 q2 p3 w0)), .val (.int (v0_83 p0 p1 q2 p3 w0)), .val (.int (v0_97 p0 p1 q2 p3 w0)), .val (.int (v0_106 p0 p1 q2 p3 w0)), .val (.int (v0_115 p0 p1 q2 p3 w0)), .val (.int (v0_124 p0 p1 q2 p3 w0)), .val (.int (v0_133 p0 p1 q2 p3 w0)), .val (.int (v0_142 p0 p1 q2 p3 w0)), .val (.int (v0_156 p0 p1 q2 p3 w0)), .val (.int (v0_183 p0 p1 q2 p3 w0)), .val (.int (v0_210 p0 p1 q2 p3 w0)), .unset, .unset]
def la0_16 (p0 : Int32) (p1 : Int32) (q2 : Int64) (p3 : Int32) (w0 : Int32) (b0_0 : Addr) (b0_20 : Addr) : Array Slot := #[.val (.int p0), .val (.int p1), .val (.long q2), .second, .val (.int p3), .val (.ref b0_0), .val (.ref b0_20), .val (.int (v0_43 p0 p1 q2 p3 w0)), .val (.int (v0_56 p0 p1 q2 p3 w0)), .val (.int (v0_69 p0 p1 q2 p3 w0)), .val (.int (v0_83 p0 p1 q2 p3 w0)), .val (.int (v0_97 p0 p1 q2 p3 w0)), .val (.int (v0_106 p0 p1 q2 p3 w0)), .val (.int (v0_115 p0 p1 q2 p3 w0)), .val (.int (v0_124 p0 p1 q2 p3 w0)), .val (.int (v0_133 p0 p1 q2 p3 w0)), .val (.int (v0_142 p0 p1 q2 p3 w0)), .val (.int (v0_156 p0 p1 q2 p3 w0)), .val (.int (v0_183 p0 p1 q2 p3 w0)), .val (.int (v0_210 p0 p1 q2 p3 w0)), .val (.int (v0_237 p0 p1 q2 p3 w0)), .unset]
def la0_17 (p0 : Int32) (p1 : Int32) (q2 : Int64) (p3 : Int32) (w0 : Int32) (b0_0 : Addr) (b0_20 : Addr) : Array Slot := #[.val (.int p0), .val (.int p1), .val (.long q2), .second, .val (.int p3), .val (.ref b0_0), .val (.ref b0_20), .val (.int (v0_43 p0 p1 q2 p3 w0)), .val (.int (v0_56 p0 p1 q2 p3 w0)), .val (.int (v0_69 p0 p1 q2 p3 w0)), .val (.int (v0_83 p0 p1 q2 p3 w0)), .val (.int (v0_97 p0 p1 q2 p3 w0)), .val (.int (v0_106 p0 p1 q2 p3 w0)), .val (.int (v0_115 p0 p1 q2 p3 w0)), .val (.int (v0_124 p0 p1 q2 p3 w0)), .val (.int (v0_133 p0 p1 q2 p3 w0)), .val (.int (v0_142 p0 p1 q2 p3 w0)), .val (.int (v0_156 p0 p1 q2 p3 w0)), .val (.int (v0_183 p0 p1 q2 p3 w0)), .val (.int (v0_210 p0 p1 q2 p3 w0)), .val (.int (v0_237 p0 p1 q2 p3 w0)), .val (.int (v0_264 p0 p1 q2 p3 w0))]
def f0 (p0 : Int32) (p1 : Int32) (q2 : Int64) (p3 : Int32) (w0 : Int32) : Int32 := (if (v0_156 p0 p1 q2 p3 w0) = (0 : Int32) then (0 : Int32) else (if (v0_183 p0 p1 q2 p3 w0) = (0 : Int32) then (0 : Int32) else (if (v0_210 p0 p1 q2 p3 w0) = (0 : Int32) then (0 : Int32) else (if (v0_237 p0 p1 q2 p3 w0) = (0 : Int32) then (0 : Int32) else (if (v0_264 p0 p1 q2 p3 w0) = (0 : Int32) then (0 : Int32) else (1 : Int32))))))
theorem own_c (c : Int32) : ¬ ((255 : Int32) < ((c &&& (255 : Int32)).toUInt32.toUInt16.toUInt32.toInt32)) := by
  have h1 := c_mask c 255 8 (by decide) (by decide)
  have e : (255 : Int32).toInt = 255 := by decide
  rw [own_lt, i2c_mask, h1, e]
  omega
theorem own_key {a b : Int32} (ha : a = 0 ∨ a = 1) (hb : b = 0 ∨ b = 1) : f13 b (nar .boolean a) = (if b = (0 : Int32) then (0 : Int32) else (if a = (0 : Int32) then (1 : Int32) else (0 : Int32))) := by
  rcases ha with rfl | rfl <;> rcases hb with rfl | rfl <;> decide
theorem own_key0 {b : Int32} (hb : b = 0 ∨ b = 1) : f13 b 0 = b := by rcases hb with rfl | rfl <;> decide
theorem own_bit (x m : Int32) : (if (x &&& m) = (0 : Int32) then (0 : Int32) else (1 : Int32)) = 0 ∨ (if (x &&& m) = (0 : Int32) then (0 : Int32) else (1 : Int32)) = 1 := by
  by_cases h : (x &&& m) = (0 : Int32)
  · exact Or.inl (if_pos h)
  · exact Or.inr (if_neg h)
theorem own_plain (a b : Int32) (c : Int64) (d w : Int32) : f0 a b c d w = 1 := by
  have n4 : ¬ ((1 : Int32) = 0) := by decide
  have b0 : v0_43 a b c d w = 0 ∨ v0_43 a b c d w = 1 := own_bit a 1
  have b1 : v0_56 a b c d w = 0 ∨ v0_56 a b c d w = 1 := own_bit a 2
  have b2 : v0_69 a b c d w = 0 ∨ v0_69 a b c d w = 1 := own_bit a 4
  have b3 : v0_83 a b c d w = 0 ∨ v0_83 a b c d w = 1 := own_bit a 8
  have b4 : v0_97 a b c d w = 0 ∨ v0_97 a b c d w = 1 := own_bit a 16
  have h0 : v0_156 a b c d w = 1 := by unfold v0_156 v0_106; rw [if_pos (own_key0 b0)]
  have h1 : v0_183 a b c d w = 1 := by unfold v0_183 v0_115 v0_175_s0; rw [if_pos (own_key b0 b1)]
  have h2 : v0_210 a b c d w = 1 := by unfold v0_210 v0_124 v0_202_s0; rw [if_pos (own_key b1 b2)]
  have h3 : v0_237 a b c d w = 1 := by unfold v0_237 v0_133 v0_229_s0; rw [if_pos (own_key b2 b3)]
  have h4 : v0_264 a b c d w = 1 := by unfold v0_264 v0_142 v0_256_s0; rw [if_pos (own_key b3 b4)]
  unfold f0
  rw [h0, h1, h2, h3, h4, if_neg n4, if_neg n4, if_neg n4, if_neg n4, if_neg n4]
theorem pn_com_example_xixi_xixi_consumer_PullRequestHoldBackPinLaw : plainName "com/example/xixi/xixi/consumer/PullRequestHoldBackPinLaw" = true := by first | (simp [plainName, overriddenIn]; done) | decide +kernel
theorem ef_0 (m : MethodId) (x0 : Int32) (x1 : Int32) (x2 : Int64) (x3 : Int32) : entryFrame m #[(.int x0), (.int x1), (.long x2), (.int x3)] maxLocals = mkF m 0 #[.val (.int x0), .val (.int x1), .val (.long x2), .second, .val (.int x3), .unset, .unset, .unset, .unset, .unset, .unset, .unset, .unset, .unset, .unset, .unset, .unset, .unset, .unset, .unset, .unset, .unset] [] := by first | (simp [entryFrame, mkF, argsToLocals, Value.category, maxLocals]; done) | rfl
def Q0 (Z : State) (p0 : Int32) (p1 : Int32) (q2 : Int64) (p3 : Int32) (w0 : Int32) (h0 : Heap) (n0 : Nat) (v : Option Value) (h : Heap) (L : List Loc) : Prop := v = some (.int 1) ∧ Fr n0 L
set_option maxRecDepth 65536 in
set_option maxHeartbeats 40000000 in
theorem rm0 (l : Launch) (Z : State) (aZ : Array Value) (hw : ∀ d ∈ tables_1, d.before aZ Z = true) (ws : List Jvm.Cond) (p0 : Int32) (p1 : Int32) (q2 : Int64) (p3 : Int32) (w0 : Int32) (h0 : Heap) (n0 : Nat) (Z0 : n0 ≤ h0.size) (S0 : Sta Z h0 "java/lang/String" "COMPACT_STRINGS" "Z" (.int w0)) (hw0 : ¬ (w0 = (0 : Int32))) :
    MetFree l x (head1 (Jvm.Cond.code x code maxLocals ret :: ws) room_1) (fun a U => a = #[(.int p0), (.int p1), (.long q2), (.int p3)] ∧ Z.Warmed39 U.vm ∧ U.heap = h0) (fun _ _ _ _ _ => True) (fun _ U o U' => ∃ v L, o = .returned v ∧ Q0 Z p0 p1 q2 p3 w0 h0 n0 v U'.heap L ∧ FrameEnd U o U' L room_1.cells room_1.slots) := by
  refine MetFree.of_bodySF (plainFor_of_name pn_com_example_xixi_xixi_consumer_PullRequestHoldBackPinLaw) hisR ?_
  intro p e s m args below meth c s₁ Bd hml0 hP hK
  obtain ⟨rfl, hZ, hh⟩ := hP
  have hx := Bd.exec
  have hby := Bd.bytes
  have hlk : meth.locks = false := BodyLoose.notSynchronized Bd
  have hml : c.maxLocals = 22 := hml0
  have hown : s.vm.findClass "com/example/xixi/xixi/consumer/PullRequestHoldBackPinLaw" = some m.cls := findClass_of_methodNamed Bd.named
  have hnm := (name_of_methodNamed Bd.named Bd.method).1
  have X0 : Stand p l e room_1 s m #[(.int p0), (.int p1), (.long q2), (.int p3)] below meth c s₁ [] 0 0 := Stand.of_body Bd
  have e0 : s₁.heap = h0 := by rw [← hh, Bd.state]; rfl
  have N0 := Fr.nil n0
  show OEnd p e below s s₁ (entryFrame m #[(.int p0), (.int p1), (.long q2), (.int p3)] maxLocals) (Q0 Z p0 p1 q2 p3 w0 h0 n0) room_1.cells room_1.slots
  refine OEnd.go (g' := (mkF m 0 (la0_0 p0 p1 q2 p3) [])) (fun _ k => castTop (ef_0 m p0 p1 q2 p3) k) ?_
  obtain ⟨T1, h1, X1, e1, E1, A1, D1, -, st1⟩ := newO X0 hx hZ hown (hw _ (List.mem_of_getElem? (i := 0) rfl)) (hw _ (List.mem_of_getElem? (i := 1) rfl)) (hw _ (List.mem_of_getElem? (i := 2) rfl)) e0 (g := (mkF m 0 (la0_0 p0 p1 q2 p3) [])) rfl (hb hby at_0) (by decide) (by decide)
  obtain ⟨b0_0, g1⟩ : ∃ z, z = h0.size := ⟨_, rfl⟩
  rw [← g1] at A1 D1 st1
  have gle_b0_0 : n0 ≤ b0_0 := Nat.le_trans Z0 (Nat.le_of_eq g1.symm)
  have fc2 : Sta Z h1 "java/lang/String" "COMPACT_STRINGS" "Z" (.int w0) := (S0.ext E1)
  have Z1 : n0 ≤ h1.size := Nat.le_trans Z0 E1.1
  have fc3 : Fld Z h1 b0_0 "com/example/xixi/xixi/consumer/TopicQueue" "topic" "Ljava/lang/String;" .null := D1 (Or.inr (hw _ (List.mem_of_getElem? (i := 39) rfl))) (ty := (.object "java/lang/String")) (by decide)
  have fc4 : Fld Z h1 b0_0 "com/example/xixi/xixi/consumer/TopicQueue" "queueId" "I" (.int (0 : Int32)) := D1 (Or.inr (hw _ (List.mem_of_getElem? (i := 41) rfl))) (ty := .int) (by decide)
  refine OEnd.go (g' := (mkF m 3 (la0_0 p0 p1 q2 p3) [(.ref b0_0)])) st1 ?_
  refine OEnd.go (T' := T1) (g' := (mkF m 11 (la0_0 p0 p1 q2 p3) [(.int ((p3 &&& (255 : Int32)).toUInt32.toUInt16.toUInt32.toInt32)), (.ref b0_0), (.ref b0_0)])) (fun t k => ?_) ?_
  · show Steps p.tables e below (T1.setTop (mkF m 3 (la0_0 p0 p1 q2 p3) [(.ref b0_0)])) t
    refine XS.dup X1.here hx rfl (hb hby at_3) rfl rfl ?_
    show Steps p.tables e below (T1.setTop (mkF m 4 (la0_0 p0 p1 q2 p3) [(.ref b0_0), (.ref b0_0)])) t
    refine XS.iload X1.here hx rfl (hb hby at_4) rfl ?_
    show Steps p.tables e below (T1.setTop (mkF m 6 (la0_0 p0 p1 q2 p3) [(.int p3), (.ref b0_0), (.ref b0_0)])) t
    refine XS.sipush X1.here hx rfl (hb hby at_6) ?_
    show Steps p.tables e below (T1.setTop (mkF m 9 (la0_0 p0 p1 q2 p3) [(.int (255 : Int32)), (.int p3), (.ref b0_0), (.ref b0_0)])) t
    refine XS.iand X1.here hx rfl (hb hby at_9) rfl ?_
    show Steps p.tables e below (T1.setTop (mkF m 10 (la0_0 p0 p1 q2 p3) [(.int (p3 &&& (255 : Int32))), (.ref b0_0), (.ref b0_0)])) t
    refine XS.i2c X1.here hx rfl (hb hby at_10) rfl ?_
    show Steps p.tables e below (T1.setTop (mkF m 11 (la0_0 p0 p1 q2 p3) [(.int ((p3 &&& (255 : Int32)).toUInt32.toUInt16.toUInt32.toInt32)), (.ref b0_0), (.ref b0_0)])) t
    exact k
  obtain ⟨_, _, ⟨T5, L5, k5, n5⟩, -, X5, ⟨Lc5, hQ5, l5, y5, z5⟩, st5⟩ := Jvm.LawKit.callS X1 hx (y := (⟨"java/lang/String", "valueOf", "(C)Ljava/lang/String;"⟩ : MethodName)) hown (mvT hZ (hw _ (List.mem_of_getElem? (i := 3) rfl))) (mvT hZ (hw _ (List.mem_of_getElem? (i := 4) rfl))) (mvT hZ (hw _ (List.mem_of_getElem? (i := 5) rfl))) (mvT hZ (hw _ (List.mem_of_getElem? (i := 6) rfl))) (by decide) (backOf (W := 2) (rm1 l Z aZ hw [] ((p3 &&& (255 : Int32)).toUInt32.toUInt16.toUInt32.toInt32) w0 h1 n0 Z1 fc2 hw0 (own_c p3)) hZ (hw _ (List.mem_of_getElem? (i := 6) rfl)) (hw _ (List.mem_of_getElem? (i := 5) rfl)) (by decide) (by decide)) (g := (mkF m 11 (la0_0 p0 p1 q2 p3) [(.int ((p3 &&& (255 : Int32)).toUInt32.toUInt16.toUInt32.toInt32)), (.ref b0_0), (.ref b0_0)])) rfl (by rw [hml]; rfl) (argsL := [(.int ((p3 &&& (255 : Int32)).toUInt32.toUInt16.toUInt32.toInt32))]) (rest := [(.ref b0_0), (.ref b0_0)]) (lenOf pd__C_Ljava_lang_String_ rfl) rfl (by show 2 * 0 + _ ≤ _; exact Nat.le_of_eq rfl) (hb hby at_11) (fun _ _ => ⟨rfl, e1, (by decide : 1 + 2 ≤ _), (by decide : 2 + 5 ≤ _)⟩)
  dsimp only [Pt.U, Pt.locs, Pt.cells, Pt.slots] at X5 l5 y5 z5 st5 hQ5
  subst l5 y5 z5
  obtain ⟨r0_11, rfl, gle_r0_11, sz_r0_11', N5q, u5_0⟩ := hQ5
  have ne_b0_0_r0_11 : b0_0 ≠ r0_11 := Nat.ne_of_lt (Nat.lt_of_lt_of_le A1.lt sz_r0_11')
  have N5 := Fr.app N0 N5q
  have Z5 : n0 ≤ T5.heap.size := Nat.le_trans Z1 u5_0.1
  have fc6 : Exa Z T5.heap b0_0 "com/example/xixi/xixi/consumer/TopicQueue" := (A1.keep u5_0)
  have fc7 : Fld Z T5.heap b0_0 "com/example/xixi/xixi/consumer/TopicQueue" "topic" "Ljava/lang/String;" .null := (fc3.keep u5_0 nin0)
  have fc8 : Fld Z T5.heap b0_0 "com/example/xixi/xixi/consumer/TopicQueue" "queueId" "I" (.int (0 : Int32)) := (fc4.keep u5_0 nin0)
  refine OEnd.go (g' := (mkF m 14 (la0_0 p0 p1 q2 p3) [(.ref r0_11), (.ref b0_0), (.ref b0_0)])) st5 ?_
  refine OEnd.go (T' := T5) (g' := (mkF m 15 (la0_0 p0 p1 q2 p3) [(.int p1), (.ref r0_11), (.ref b0_0), (.ref b0_0)])) (fun t k => ?_) ?_
  · show Steps p.tables e below (T5.setTop (mkF m 14 (la0_0 p0 p1 q2 p3) [(.ref r0_11), (.ref b0_0), (.ref b0_0)])) t
    refine XS.iloadN X5.here hx rfl (hb hby at_14) rfl ?_
    show Steps p.tables e below (T5.setTop (mkF m 15 (la0_0 p0 p1 q2 p3) [(.int p1), (.ref r0_11), (.ref b0_0), (.ref b0_0)])) t
    exact k
  obtain ⟨_, _, ⟨T9, L9, k9, n9⟩, -, X9, ⟨Lc9, hQ9, l9, y9, z9⟩, st9⟩ := X5.specialBack hx (y := (⟨"com/example/xixi/xixi/consumer/TopicQueue", "<init>", "(Ljava/lang/String;I)V"⟩ : MethodName)) rfl hown (mvT hZ (hw _ (List.mem_of_getElem? (i := 29) rfl))) (mvT hZ (hw _ (List.mem_of_getElem? (i := 30) rfl))) (mvT hZ (hw _ (List.mem_of_getElem? (i := 31) rfl))) (by decide) (backOf (W := 1) (rm6 l Z aZ hw [] b0_0 r0_11 p1 T5.heap n0 Z5 fc7 fc8 fc6 gle_b0_0) hZ (hw _ (List.mem_of_getElem? (i := 31) rfl)) (hw _ (List.mem_of_getElem? (i := 2) rfl)) (by decide) (by decide)) (g := (mkF m 15 (la0_0 p0 p1 q2 p3) [(.int p1), (.ref r0_11), (.ref b0_0), (.ref b0_0)])) rfl (by rw [hml]; rfl) (Steps.refl _) (a := b0_0) (argsL := [(.ref r0_11), (.int p1)]) (rest := [(.ref b0_0)]) (lenOf pd__Ljava_lang_String_I_V rfl) rfl (by show 2 * 0 + _ ≤ _; exact Nat.le_of_eq rfl) (hb hby at_15) (fun _ _ => ⟨rfl, rfl, (by decide : 3 + 0 ≤ _), (by decide : 7 + 0 ≤ _)⟩)
  dsimp only [Pt.U, Pt.locs, Pt.cells, Pt.slots] at X9 l9 y9 z9 st9 hQ9
  subst l9 y9 z9
  obtain ⟨rfl, N9q, u9_0⟩ := hQ9
  have N9 := Fr.app N5 N9q
  have Z9 : n0 ≤ T9.heap.size := Nat.le_trans Z5 u9_0.1
  have fc10 : Exa Z T9.heap b0_0 "com/example/xixi/xixi/consumer/TopicQueue" := (fc6.keep u9_0)
  refine OEnd.go (g' := (mkF m 18 (la0_0 p0 p1 q2 p3) [(.ref b0_0)])) (fun _ k => st9.trans k) ?_
  refine OEnd.go (T' := T9) (g' := (mkF m 20 (la0_1 p0 p1 q2 p3 b0_0) [])) (fun t k => ?_) ?_
  · show Steps p.tables e below (T9.setTop (mkF m 18 (la0_0 p0 p1 q2 p3) [(.ref b0_0)])) t
    refine XS.astore X9.here hx rfl (hb hby at_18) rfl rfl (l' := (la0_1 p0 p1 q2 p3 b0_0)) rfl ?_
    show Steps p.tables e below (T9.setTop (mkF m 20 (la0_1 p0 p1 q2 p3 b0_0) [])) t
    exact k
  obtain ⟨T11, h11, X11, e11, E11, A11, D11, -, st11⟩ := newO X9 hx hZ hown (hw _ (List.mem_of_getElem? (i := 42) rfl)) (hw _ (List.mem_of_getElem? (i := 43) rfl)) (hw _ (List.mem_of_getElem? (i := 44) rfl)) rfl (g := (mkF m 20 (la0_1 p0 p1 q2 p3 b0_0) [])) rfl (hb hby at_20) (by decide) (by decide)
  obtain ⟨b0_20, g11⟩ : ∃ z, z = T9.heap.size := ⟨_, rfl⟩
  rw [← g11] at A11 D11 st11
  have gle_b0_20 : n0 ≤ b0_20 := Nat.le_trans Z9 (Nat.le_of_eq g11.symm)
  have ne_b0_0_b0_20 : b0_0 ≠ b0_20 := Nat.ne_of_lt (Nat.lt_of_lt_of_le fc10.lt (Nat.le_of_eq g11.symm))
  have fc12 : Exa Z h11 b0_0 "com/example/xixi/xixi/consumer/TopicQueue" := (fc10.ext E11)
  have Z11 : n0 ≤ h11.size := Nat.le_trans Z9 E11.1
  have fc13 : Fld Z h11 b0_20 "com/example/xixi/xixi/consumer/PullRequest" "commitPlanned" "Ljava/util/concurrent/atomic/AtomicBoolean;" .null := D11 (Or.inr (hw _ (List.mem_of_getElem? (i := 57) rfl))) (ty := (.object "java/util/concurrent/atomic/AtomicBoolean")) (by decide)
  have fc14 : Fld Z h11 b0_20 "com/example/xixi/xixi/consumer/PullRequest" "queue" "Lcom/example/xixi/xixi/consumer/TopicQueue;" .null := D11 (Or.inr (hw _ (List.mem_of_getElem? (i := 59) rfl))) (ty := (.object "com/example/xixi/xixi/consumer/TopicQueue")) (by decide)
  have fc15 : Fld Z h11 b0_20 "com/example/xixi/xixi/consumer/PullRequest" "cache" "Lcom/example/xixi/xixi/consumer/QueueCache;" .null := D11 (Or.inl (hw _ (List.mem_of_getElem? (i := 96) rfl))) (ty := (.object "com/example/xixi/xixi/consumer/QueueCache")) (by decide)
  have fc16 : Fld Z h11 b0_20 "com/example/xixi/xixi/consumer/PullRequest" "heldBack" "Z" (.int (0 : Int32)) := D11 (Or.inl (hw _ (List.mem_of_getElem? (i := 103) rfl))) (ty := .boolean) (by decide)
  refine OEnd.go (g' := (mkF m 23 (la0_1 p0 p1 q2 p3 b0_0) [(.ref b0_20)])) st11 ?_
  refine OEnd.go (T' := T11) (g' := (mkF m 27 (la0_1 p0 p1 q2 p3 b0_0) [(.long q2), (.ref b0_0), (.ref b0_20), (.ref b0_20)])) (fun t k => ?_) ?_
  · show Steps p.tables e below (T11.setTop (mkF m 23 (la0_1 p0 p1 q2 p3 b0_0) [(.ref b0_20)])) t
    refine XS.dup X11.here hx rfl (hb hby at_23) rfl rfl ?_
    show Steps p.tables e below (T11.setTop (mkF m 24 (la0_1 p0 p1 q2 p3 b0_0) [(.ref b0_20), (.ref b0_20)])) t
    refine XS.aload X11.here hx rfl (hb hby at_24) rfl rfl ?_
    show Steps p.tables e below (T11.setTop (mkF m 26 (la0_1 p0 p1 q2 p3 b0_0) [(.ref b0_0), (.ref b0_20), (.ref b0_20)])) t
    refine XS.lloadN X11.here hx rfl (hb hby at_26) rfl ?_
    show Steps p.tables e below (T11.setTop (mkF m 27 (la0_1 p0 p1 q2 p3 b0_0) [(.long q2), (.ref b0_0), (.ref b0_20), (.ref b0_20)])) t
    exact k
  obtain ⟨_, _, ⟨T17, L17, k17, n17⟩, -, X17, ⟨Lc17, hQ17, l17, y17, z17⟩, st17⟩ := X11.specialBack hx (y := (⟨"com/example/xixi/xixi/consumer/PullRequest", "<init>", "(Lcom/example/xixi/xixi/consumer/TopicQueue;J)V"⟩ : MethodName)) rfl hown (mvT hZ (hw _ (List.mem_of_getElem? (i := 45) rfl))) (mvT hZ (hw _ (List.mem_of_getElem? (i := 46) rfl))) (mvT hZ (hw _ (List.mem_of_getElem? (i := 47) rfl))) (by decide) (backOf (W := 1) (rm8 l Z aZ hw [] b0_20 b0_0 q2 h11 n0 Z11 fc13 fc14 fc15 fc16 A11 gle_b0_20) hZ (hw _ (List.mem_of_getElem? (i := 47) rfl)) (hw _ (List.mem_of_getElem? (i := 44) rfl)) (by decide) (by decide)) (g := (mkF m 27 (la0_1 p0 p1 q2 p3 b0_0) [(.long q2), (.ref b0_0), (.ref b0_20), (.ref b0_20)])) rfl (by rw [hml]; rfl) (Steps.refl _) (a := b0_20) (argsL := [(.ref b0_0), (.long q2)]) (rest := [(.ref b0_20)]) (lenOf pd__Lcom_example_xixi_xixi_consumer_TopicQueue_J_V rfl) rfl (by show 2 * 0 + _ ≤ _; exact Nat.le_of_eq rfl) (hb hby at_27) (fun _ _ => ⟨rfl, e11, (by decide : 4 + 3 ≤ _), (by decide : 12 + 16 ≤ _)⟩)
  dsimp only [Pt.U, Pt.locs, Pt.cells, Pt.slots] at X17 l17 y17 z17 st17 hQ17
  subst l17 y17 z17
  obtain ⟨rfl, N17q, u17_0, u17_1, u17_2⟩ := hQ17
  have N17 := Fr.app N9 N17q
  have Z17 : n0 ≤ T17.heap.size := Nat.le_trans Z11 u17_0.1
  have fc18 : Exa Z T17.heap b0_0 "com/example/xixi/xixi/consumer/TopicQueue" := (fc12.keep u17_0)
  refine OEnd.go (g' := (mkF m 30 (la0_1 p0 p1 q2 p3 b0_0) [(.ref b0_20)])) (fun _ k => st17.trans k) ?_
  refine OEnd.go (T' := T17) (g' := (mkF m 35 (la0_2 p0 p1 q2 p3 b0_0 b0_20) [(.int (p0 &&& (1 : Int32)))])) (fun t k => ?_) ?_
  · show Steps p.tables e below (T17.setTop (mkF m 30 (la0_1 p0 p1 q2 p3 b0_0) [(.ref b0_20)])) t
    refine XS.astore X17.here hx rfl (hb hby at_30) rfl rfl (l' := (la0_2 p0 p1 q2 p3 b0_0 b0_20)) rfl ?_
    show Steps p.tables e below (T17.setTop (mkF m 32 (la0_2 p0 p1 q2 p3 b0_0 b0_20) [])) t
    refine XS.iloadN X17.here hx rfl (hb hby at_32) rfl ?_
    show Steps p.tables e below (T17.setTop (mkF m 33 (la0_2 p0 p1 q2 p3 b0_0 b0_20) [(.int p0)])) t
    refine XS.iconst X17.here hx rfl (hb hby at_33) ?_
    show Steps p.tables e below (T17.setTop (mkF m 34 (la0_2 p0 p1 q2 p3 b0_0 b0_20) [(.int (1 : Int32)), (.int p0)])) t
    refine XS.iand X17.here hx rfl (hb hby at_34) rfl ?_
    show Steps p.tables e below (T17.setTop (mkF m 35 (la0_2 p0 p1 q2 p3 b0_0 b0_20) [(.int (p0 &&& (1 : Int32)))])) t
    exact k
  refine OEnd.go (T' := T17) (g' := (mkF m 43 (la0_2 p0 p1 q2 p3 b0_0 b0_20) [(.int (if (p0 &&& (1 : Int32)) = (0 : Int32) then (0 : Int32) else (1 : Int32)))])) (fun t k => ?_) ?_
  · show Steps p.tables e below (T17.setTop (mkF m 35 (la0_2 p0 p1 q2 p3 b0_0 b0_20) [(.int (p0 &&& (1 : Int32)))])) t
    by_cases hc19 : (p0 &&& (1 : Int32)) = (0 : Int32)
    · skip
      refine XS.ifYes X17.here hx rfl (pc0 := 35) (pc' := 42) rfl (hb hby at_35) rfl ((if0 _ _).trans (teq (hc19)).1) (by decide) (by decide) ?_
      show Steps p.tables e below (T17.setTop (mkF m 42 (la0_2 p0 p1 q2 p3 b0_0 b0_20) [])) t
      refine SGo.go (T' := T17) (g' := (mkF m 43 (la0_2 p0 p1 q2 p3 b0_0 b0_20) [(.int (0 : Int32))])) (fun t k => ?_) ?_
      · show Steps p.tables e below (T17.setTop (mkF m 42 (la0_2 p0 p1 q2 p3 b0_0 b0_20) [])) t
        refine XS.iconst X17.here hx rfl (hb hby at_42) ?_
        show Steps p.tables e below (T17.setTop (mkF m 43 (la0_2 p0 p1 q2 p3 b0_0 b0_20) [(.int (0 : Int32))])) t
        exact k
      exact (own_k (f := fun (z : Int32) => mkF m 43 #[.val (.int p0), .val (.int p1), .val (.long q2), .second, .val (.int p3), .val (.ref b0_0), .val (.ref b0_20), .unset, .unset, .unset, .unset, .unset, .unset, .unset, .unset, .unset, .unset, .unset, .unset, .unset, .unset, .unset] [(.int z)]) (if_pos hc19) k)
    · skip
      refine XS.ifNo X17.here hx rfl (hb hby at_35) rfl ((if0 _ _).trans (feq (hc19)).1) ?_
      show Steps p.tables e below (T17.setTop (mkF m 38 (la0_2 p0 p1 q2 p3 b0_0 b0_20) [])) t
      refine SGo.go (T' := T17) (g' := (mkF m 43 (la0_2 p0 p1 q2 p3 b0_0 b0_20) [(.int (1 : Int32))])) (fun t k => ?_) ?_
      · show Steps p.tables e below (T17.setTop (mkF m 38 (la0_2 p0 p1 q2 p3 b0_0 b0_20) [])) t
        refine XS.iconst X17.here hx rfl (hb hby at_38) ?_
        show Steps p.tables e below (T17.setTop (mkF m 39 (la0_2 p0 p1 q2 p3 b0_0 b0_20) [(.int (1 : Int32))])) t
        refine XS.goto X17.here hx rfl (pc0 := 39) (pc' := 43) rfl (hb hby at_39) (by decide) (by decide) ?_
        show Steps p.tables e below (T17.setTop (mkF m 43 (la0_2 p0 p1 q2 p3 b0_0 b0_20) [(.int (1 : Int32))])) t
        exact k
      exact (own_k (f := fun (z : Int32) => mkF m 43 #[.val (.int p0), .val (.int p1), .val (.long q2), .second, .val (.int p3), .val (.ref b0_0), .val (.ref b0_20), .unset, .unset, .unset, .unset, .unset, .unset, .unset, .unset, .unset, .unset, .unset, .unset, .unset, .unset, .unset] [(.int z)]) (if_neg hc19) k)
  refine OEnd.go (T' := T17) (g' := (mkF m 48 (la0_3 p0 p1 q2 p3 w0 b0_0 b0_20) [(.int (p0 &&& (2 : Int32)))])) (fun t k => ?_) ?_
  · show Steps p.tables e below (T17.setTop (mkF m 43 (la0_2 p0 p1 q2 p3 b0_0 b0_20) [(.int (if (p0 &&& (1 : Int32)) = (0 : Int32) then (0 : Int32) else (1 : Int32)))])) t
    refine XS.istore X17.here hx rfl (hb hby at_43) rfl (l' := (la0_3 p0 p1 q2 p3 w0 b0_0 b0_20)) rfl ?_
    show Steps p.tables e below (T17.setTop (mkF m 45 (la0_3 p0 p1 q2 p3 w0 b0_0 b0_20) [])) t
    refine XS.iloadN X17.here hx rfl (hb hby at_45) rfl ?_
    show Steps p.tables e below (T17.setTop (mkF m 46 (la0_3 p0 p1 q2 p3 w0 b0_0 b0_20) [(.int p0)])) t
    refine XS.iconst X17.here hx rfl (hb hby at_46) ?_
    show Steps p.tables e below (T17.setTop (mkF m 47 (la0_3 p0 p1 q2 p3 w0 b0_0 b0_20) [(.int (2 : Int32)), (.int p0)])) t
    refine XS.iand X17.here hx rfl (hb hby at_47) rfl ?_
    show Steps p.tables e below (T17.setTop (mkF m 48 (la0_3 p0 p1 q2 p3 w0 b0_0 b0_20) [(.int (p0 &&& (2 : Int32)))])) t
    exact k
  refine OEnd.go (T' := T17) (g' := (mkF m 56 (la0_3 p0 p1 q2 p3 w0 b0_0 b0_20) [(.int (if (p0 &&& (2 : Int32)) = (0 : Int32) then (0 : Int32) else (1 : Int32)))])) (fun t k => ?_) ?_
  · show Steps p.tables e below (T17.setTop (mkF m 48 (la0_3 p0 p1 q2 p3 w0 b0_0 b0_20) [(.int (p0 &&& (2 : Int32)))])) t
    by_cases hc20 : (p0 &&& (2 : Int32)) = (0 : Int32)
    · skip
      refine XS.ifYes X17.here hx rfl (pc0 := 48) (pc' := 55) rfl (hb hby at_48) rfl ((if0 _ _).trans (teq (hc20)).1) (by decide) (by decide) ?_
      show Steps p.tables e below (T17.setTop (mkF m 55 (la0_3 p0 p1 q2 p3 w0 b0_0 b0_20) [])) t
      refine SGo.go (T' := T17) (g' := (mkF m 56 (la0_3 p0 p1 q2 p3 w0 b0_0 b0_20) [(.int (0 : Int32))])) (fun t k => ?_) ?_
      · show Steps p.tables e below (T17.setTop (mkF m 55 (la0_3 p0 p1 q2 p3 w0 b0_0 b0_20) [])) t
        refine XS.iconst X17.here hx rfl (hb hby at_55) ?_
        show Steps p.tables e below (T17.setTop (mkF m 56 (la0_3 p0 p1 q2 p3 w0 b0_0 b0_20) [(.int (0 : Int32))])) t
        exact k
      exact (own_k (f := fun (z : Int32) => mkF m 56 #[.val (.int p0), .val (.int p1), .val (.long q2), .second, .val (.int p3), .val (.ref b0_0), .val (.ref b0_20), .val (.int (v0_43 p0 p1 q2 p3 w0)), .unset, .unset, .unset, .unset, .unset, .unset, .unset, .unset, .unset, .unset, .unset, .unset, .unset, .unset] [(.int z)]) (if_pos hc20) k)
    · skip
      refine XS.ifNo X17.here hx rfl (hb hby at_48) rfl ((if0 _ _).trans (feq (hc20)).1) ?_
      show Steps p.tables e below (T17.setTop (mkF m 51 (la0_3 p0 p1 q2 p3 w0 b0_0 b0_20) [])) t
      refine SGo.go (T' := T17) (g' := (mkF m 56 (la0_3 p0 p1 q2 p3 w0 b0_0 b0_20) [(.int (1 : Int32))])) (fun t k => ?_) ?_
      · show Steps p.tables e below (T17.setTop (mkF m 51 (la0_3 p0 p1 q2 p3 w0 b0_0 b0_20) [])) t
        refine XS.iconst X17.here hx rfl (hb hby at_51) ?_
        show Steps p.tables e below (T17.setTop (mkF m 52 (la0_3 p0 p1 q2 p3 w0 b0_0 b0_20) [(.int (1 : Int32))])) t
        refine XS.goto X17.here hx rfl (pc0 := 52) (pc' := 56) rfl (hb hby at_52) (by decide) (by decide) ?_
        show Steps p.tables e below (T17.setTop (mkF m 56 (la0_3 p0 p1 q2 p3 w0 b0_0 b0_20) [(.int (1 : Int32))])) t
        exact k
      exact (own_k (f := fun (z : Int32) => mkF m 56 #[.val (.int p0), .val (.int p1), .val (.long q2), .second, .val (.int p3), .val (.ref b0_0), .val (.ref b0_20), .val (.int (v0_43 p0 p1 q2 p3 w0)), .unset, .unset, .unset, .unset, .unset, .unset, .unset, .unset, .unset, .unset, .unset, .unset, .unset, .unset] [(.int z)]) (if_neg hc20) k)
  refine OEnd.go (T' := T17) (g' := (mkF m 61 (la0_4 p0 p1 q2 p3 w0 b0_0 b0_20) [(.int (p0 &&& (4 : Int32)))])) (fun t k => ?_) ?_
  · show Steps p.tables e below (T17.setTop (mkF m 56 (la0_3 p0 p1 q2 p3 w0 b0_0 b0_20) [(.int (if (p0 &&& (2 : Int32)) = (0 : Int32) then (0 : Int32) else (1 : Int32)))])) t
    refine XS.istore X17.here hx rfl (hb hby at_56) rfl (l' := (la0_4 p0 p1 q2 p3 w0 b0_0 b0_20)) rfl ?_
    show Steps p.tables e below (T17.setTop (mkF m 58 (la0_4 p0 p1 q2 p3 w0 b0_0 b0_20) [])) t
    refine XS.iloadN X17.here hx rfl (hb hby at_58) rfl ?_
    show Steps p.tables e below (T17.setTop (mkF m 59 (la0_4 p0 p1 q2 p3 w0 b0_0 b0_20) [(.int p0)])) t
    refine XS.iconst X17.here hx rfl (hb hby at_59) ?_
    show Steps p.tables e below (T17.setTop (mkF m 60 (la0_4 p0 p1 q2 p3 w0 b0_0 b0_20) [(.int (4 : Int32)), (.int p0)])) t
    refine XS.iand X17.here hx rfl (hb hby at_60) rfl ?_
    show Steps p.tables e below (T17.setTop (mkF m 61 (la0_4 p0 p1 q2 p3 w0 b0_0 b0_20) [(.int (p0 &&& (4 : Int32)))])) t
    exact k
  refine OEnd.go (T' := T17) (g' := (mkF m 69 (la0_4 p0 p1 q2 p3 w0 b0_0 b0_20) [(.int (if (p0 &&& (4 : Int32)) = (0 : Int32) then (0 : Int32) else (1 : Int32)))])) (fun t k => ?_) ?_
  · show Steps p.tables e below (T17.setTop (mkF m 61 (la0_4 p0 p1 q2 p3 w0 b0_0 b0_20) [(.int (p0 &&& (4 : Int32)))])) t
    by_cases hc21 : (p0 &&& (4 : Int32)) = (0 : Int32)
    · skip
      refine XS.ifYes X17.here hx rfl (pc0 := 61) (pc' := 68) rfl (hb hby at_61) rfl ((if0 _ _).trans (teq (hc21)).1) (by decide) (by decide) ?_
      show Steps p.tables e below (T17.setTop (mkF m 68 (la0_4 p0 p1 q2 p3 w0 b0_0 b0_20) [])) t
      refine SGo.go (T' := T17) (g' := (mkF m 69 (la0_4 p0 p1 q2 p3 w0 b0_0 b0_20) [(.int (0 : Int32))])) (fun t k => ?_) ?_
      · show Steps p.tables e below (T17.setTop (mkF m 68 (la0_4 p0 p1 q2 p3 w0 b0_0 b0_20) [])) t
        refine XS.iconst X17.here hx rfl (hb hby at_68) ?_
        show Steps p.tables e below (T17.setTop (mkF m 69 (la0_4 p0 p1 q2 p3 w0 b0_0 b0_20) [(.int (0 : Int32))])) t
        exact k
      exact (own_k (f := fun (z : Int32) => mkF m 69 #[.val (.int p0), .val (.int p1), .val (.long q2), .second, .val (.int p3), .val (.ref b0_0), .val (.ref b0_20), .val (.int (v0_43 p0 p1 q2 p3 w0)), .val (.int (v0_56 p0 p1 q2 p3 w0)), .unset, .unset, .unset, .unset, .unset, .unset, .unset, .unset, .unset, .unset, .unset, .unset, .unset] [(.int z)]) (if_pos hc21) k)
    · skip
      refine XS.ifNo X17.here hx rfl (hb hby at_61) rfl ((if0 _ _).trans (feq (hc21)).1) ?_
      show Steps p.tables e below (T17.setTop (mkF m 64 (la0_4 p0 p1 q2 p3 w0 b0_0 b0_20) [])) t
      refine SGo.go (T' := T17) (g' := (mkF m 69 (la0_4 p0 p1 q2 p3 w0 b0_0 b0_20) [(.int (1 : Int32))])) (fun t k => ?_) ?_
      · show Steps p.tables e below (T17.setTop (mkF m 64 (la0_4 p0 p1 q2 p3 w0 b0_0 b0_20) [])) t
        refine XS.iconst X17.here hx rfl (hb hby at_64) ?_
        show Steps p.tables e below (T17.setTop (mkF m 65 (la0_4 p0 p1 q2 p3 w0 b0_0 b0_20) [(.int (1 : Int32))])) t
        refine XS.goto X17.here hx rfl (pc0 := 65) (pc' := 69) rfl (hb hby at_65) (by decide) (by decide) ?_
        show Steps p.tables e below (T17.setTop (mkF m 69 (la0_4 p0 p1 q2 p3 w0 b0_0 b0_20) [(.int (1 : Int32))])) t
        exact k
      exact (own_k (f := fun (z : Int32) => mkF m 69 #[.val (.int p0), .val (.int p1), .val (.long q2), .second, .val (.int p3), .val (.ref b0_0), .val (.ref b0_20), .val (.int (v0_43 p0 p1 q2 p3 w0)), .val (.int (v0_56 p0 p1 q2 p3 w0)), .unset, .unset, .unset, .unset, .unset, .unset, .unset, .unset, .unset, .unset, .unset, .unset, .unset] [(.int z)]) (if_neg hc21) k)
  refine OEnd.go (T' := T17) (g' := (mkF m 75 (la0_5 p0 p1 q2 p3 w0 b0_0 b0_20) [(.int (p0 &&& (8 : Int32)))])) (fun t k => ?_) ?_
  · show Steps p.tables e below (T17.setTop (mkF m 69 (la0_4 p0 p1 q2 p3 w0 b0_0 b0_20) [(.int (if (p0 &&& (4 : Int32)) = (0 : Int32) then (0 : Int32) else (1 : Int32)))])) t
    refine XS.istore X17.here hx rfl (hb hby at_69) rfl (l' := (la0_5 p0 p1 q2 p3 w0 b0_0 b0_20)) rfl ?_
    show Steps p.tables e below (T17.setTop (mkF m 71 (la0_5 p0 p1 q2 p3 w0 b0_0 b0_20) [])) t
    refine XS.iloadN X17.here hx rfl (hb hby at_71) rfl ?_
    show Steps p.tables e below (T17.setTop (mkF m 72 (la0_5 p0 p1 q2 p3 w0 b0_0 b0_20) [(.int p0)])) t
    refine XS.bipush X17.here hx rfl (hb hby at_72) ?_
    show Steps p.tables e below (T17.setTop (mkF m 74 (la0_5 p0 p1 q2 p3 w0 b0_0 b0_20) [(.int (8 : Int32)), (.int p0)])) t
    refine XS.iand X17.here hx rfl (hb hby at_74) rfl ?_
    show Steps p.tables e below (T17.setTop (mkF m 75 (la0_5 p0 p1 q2 p3 w0 b0_0 b0_20) [(.int (p0 &&& (8 : Int32)))])) t
    exact k
  refine OEnd.go (T' := T17) (g' := (mkF m 83 (la0_5 p0 p1 q2 p3 w0 b0_0 b0_20) [(.int (if (p0 &&& (8 : Int32)) = (0 : Int32) then (0 : Int32) else (1 : Int32)))])) (fun t k => ?_) ?_
  · show Steps p.tables e below (T17.setTop (mkF m 75 (la0_5 p0 p1 q2 p3 w0 b0_0 b0_20) [(.int (p0 &&& (8 : Int32)))])) t
    by_cases hc22 : (p0 &&& (8 : Int32)) = (0 : Int32)
    · skip
      refine XS.ifYes X17.here hx rfl (pc0 := 75) (pc' := 82) rfl (hb hby at_75) rfl ((if0 _ _).trans (teq (hc22)).1) (by decide) (by decide) ?_
      show Steps p.tables e below (T17.setTop (mkF m 82 (la0_5 p0 p1 q2 p3 w0 b0_0 b0_20) [])) t
      refine SGo.go (T' := T17) (g' := (mkF m 83 (la0_5 p0 p1 q2 p3 w0 b0_0 b0_20) [(.int (0 : Int32))])) (fun t k => ?_) ?_
      · show Steps p.tables e below (T17.setTop (mkF m 82 (la0_5 p0 p1 q2 p3 w0 b0_0 b0_20) [])) t
        refine XS.iconst X17.here hx rfl (hb hby at_82) ?_
        show Steps p.tables e below (T17.setTop (mkF m 83 (la0_5 p0 p1 q2 p3 w0 b0_0 b0_20) [(.int (0 : Int32))])) t
        exact k
      exact (own_k (f := fun (z : Int32) => mkF m 83 #[.val (.int p0), .val (.int p1), .val (.long q2), .second, .val (.int p3), .val (.ref b0_0), .val (.ref b0_20), .val (.int (v0_43 p0 p1 q2 p3 w0)), .val (.int (v0_56 p0 p1 q2 p3 w0)), .val (.int (v0_69 p0 p1 q2 p3 w0)), .unset, .unset, .unset, .unset, .unset, .unset, .unset, .unset, .unset, .unset, .unset, .unset] [(.int z)]) (if_pos hc22) k)
    · skip
      refine XS.ifNo X17.here hx rfl (hb hby at_75) rfl ((if0 _ _).trans (feq (hc22)).1) ?_
      show Steps p.tables e below (T17.setTop (mkF m 78 (la0_5 p0 p1 q2 p3 w0 b0_0 b0_20) [])) t
      refine SGo.go (T' := T17) (g' := (mkF m 83 (la0_5 p0 p1 q2 p3 w0 b0_0 b0_20) [(.int (1 : Int32))])) (fun t k => ?_) ?_
      · show Steps p.tables e below (T17.setTop (mkF m 78 (la0_5 p0 p1 q2 p3 w0 b0_0 b0_20) [])) t
        refine XS.iconst X17.here hx rfl (hb hby at_78) ?_
        show Steps p.tables e below (T17.setTop (mkF m 79 (la0_5 p0 p1 q2 p3 w0 b0_0 b0_20) [(.int (1 : Int32))])) t
        refine XS.goto X17.here hx rfl (pc0 := 79) (pc' := 83) rfl (hb hby at_79) (by decide) (by decide) ?_
        show Steps p.tables e below (T17.setTop (mkF m 83 (la0_5 p0 p1 q2 p3 w0 b0_0 b0_20) [(.int (1 : Int32))])) t
        exact k
      exact (own_k (f := fun (z : Int32) => mkF m 83 #[.val (.int p0), .val (.int p1), .val (.long q2), .second, .val (.int p3), .val (.ref b0_0), .val (.ref b0_20), .val (.int (v0_43 p0 p1 q2 p3 w0)), .val (.int (v0_56 p0 p1 q2 p3 w0)), .val (.int (v0_69 p0 p1 q2 p3 w0)), .unset, .unset, .unset, .unset, .unset, .unset, .unset, .unset, .unset, .unset, .unset, .unset] [(.int z)]) (if_neg hc22) k)
  refine OEnd.go (T' := T17) (g' := (mkF m 89 (la0_6 p0 p1 q2 p3 w0 b0_0 b0_20) [(.int (p0 &&& (16 : Int32)))])) (fun t k => ?_) ?_
  · show Steps p.tables e below (T17.setTop (mkF m 83 (la0_5 p0 p1 q2 p3 w0 b0_0 b0_20) [(.int (if (p0 &&& (8 : Int32)) = (0 : Int32) then (0 : Int32) else (1 : Int32)))])) t
    refine XS.istore X17.here hx rfl (hb hby at_83) rfl (l' := (la0_6 p0 p1 q2 p3 w0 b0_0 b0_20)) rfl ?_
    show Steps p.tables e below (T17.setTop (mkF m 85 (la0_6 p0 p1 q2 p3 w0 b0_0 b0_20) [])) t
    refine XS.iloadN X17.here hx rfl (hb hby at_85) rfl ?_
    show Steps p.tables e below (T17.setTop (mkF m 86 (la0_6 p0 p1 q2 p3 w0 b0_0 b0_20) [(.int p0)])) t
    refine XS.bipush X17.here hx rfl (hb hby at_86) ?_
    show Steps p.tables e below (T17.setTop (mkF m 88 (la0_6 p0 p1 q2 p3 w0 b0_0 b0_20) [(.int (16 : Int32)), (.int p0)])) t
    refine XS.iand X17.here hx rfl (hb hby at_88) rfl ?_
    show Steps p.tables e below (T17.setTop (mkF m 89 (la0_6 p0 p1 q2 p3 w0 b0_0 b0_20) [(.int (p0 &&& (16 : Int32)))])) t
    exact k
  refine OEnd.go (T' := T17) (g' := (mkF m 97 (la0_6 p0 p1 q2 p3 w0 b0_0 b0_20) [(.int (if (p0 &&& (16 : Int32)) = (0 : Int32) then (0 : Int32) else (1 : Int32)))])) (fun t k => ?_) ?_
  · show Steps p.tables e below (T17.setTop (mkF m 89 (la0_6 p0 p1 q2 p3 w0 b0_0 b0_20) [(.int (p0 &&& (16 : Int32)))])) t
    by_cases hc23 : (p0 &&& (16 : Int32)) = (0 : Int32)
    · skip
      refine XS.ifYes X17.here hx rfl (pc0 := 89) (pc' := 96) rfl (hb hby at_89) rfl ((if0 _ _).trans (teq (hc23)).1) (by decide) (by decide) ?_
      show Steps p.tables e below (T17.setTop (mkF m 96 (la0_6 p0 p1 q2 p3 w0 b0_0 b0_20) [])) t
      refine SGo.go (T' := T17) (g' := (mkF m 97 (la0_6 p0 p1 q2 p3 w0 b0_0 b0_20) [(.int (0 : Int32))])) (fun t k => ?_) ?_
      · show Steps p.tables e below (T17.setTop (mkF m 96 (la0_6 p0 p1 q2 p3 w0 b0_0 b0_20) [])) t
        refine XS.iconst X17.here hx rfl (hb hby at_96) ?_
        show Steps p.tables e below (T17.setTop (mkF m 97 (la0_6 p0 p1 q2 p3 w0 b0_0 b0_20) [(.int (0 : Int32))])) t
        exact k
      exact (own_k (f := fun (z : Int32) => mkF m 97 #[.val (.int p0), .val (.int p1), .val (.long q2), .second, .val (.int p3), .val (.ref b0_0), .val (.ref b0_20), .val (.int (v0_43 p0 p1 q2 p3 w0)), .val (.int (v0_56 p0 p1 q2 p3 w0)), .val (.int (v0_69 p0 p1 q2 p3 w0)), .val (.int (v0_83 p0 p1 q2 p3 w0)), .unset, .unset, .unset, .unset, .unset, .unset, .unset, .unset, .unset, .unset, .unset] [(.int z)]) (if_pos hc23) k)
    · skip
      refine XS.ifNo X17.here hx rfl (hb hby at_89) rfl ((if0 _ _).trans (feq (hc23)).1) ?_
      show Steps p.tables e below (T17.setTop (mkF m 92 (la0_6 p0 p1 q2 p3 w0 b0_0 b0_20) [])) t
      refine SGo.go (T' := T17) (g' := (mkF m 97 (la0_6 p0 p1 q2 p3 w0 b0_0 b0_20) [(.int (1 : Int32))])) (fun t k => ?_) ?_
      · show Steps p.tables e below (T17.setTop (mkF m 92 (la0_6 p0 p1 q2 p3 w0 b0_0 b0_20) [])) t
        refine XS.iconst X17.here hx rfl (hb hby at_92) ?_
        show Steps p.tables e below (T17.setTop (mkF m 93 (la0_6 p0 p1 q2 p3 w0 b0_0 b0_20) [(.int (1 : Int32))])) t
        refine XS.goto X17.here hx rfl (pc0 := 93) (pc' := 97) rfl (hb hby at_93) (by decide) (by decide) ?_
        show Steps p.tables e below (T17.setTop (mkF m 97 (la0_6 p0 p1 q2 p3 w0 b0_0 b0_20) [(.int (1 : Int32))])) t
        exact k
      exact (own_k (f := fun (z : Int32) => mkF m 97 #[.val (.int p0), .val (.int p1), .val (.long q2), .second, .val (.int p3), .val (.ref b0_0), .val (.ref b0_20), .val (.int (v0_43 p0 p1 q2 p3 w0)), .val (.int (v0_56 p0 p1 q2 p3 w0)), .val (.int (v0_69 p0 p1 q2 p3 w0)), .val (.int (v0_83 p0 p1 q2 p3 w0)), .unset, .unset, .unset, .unset, .unset, .unset, .unset, .unset, .unset, .unset, .unset] [(.int z)]) (if_neg hc23) k)
  refine OEnd.go (T' := T17) (g' := (mkF m 103 (la0_7 p0 p1 q2 p3 w0 b0_0 b0_20) [(.int (v0_43 p0 p1 q2 p3 w0)), (.ref b0_20)])) (fun t k => ?_) ?_
  · show Steps p.tables e below (T17.setTop (mkF m 97 (la0_6 p0 p1 q2 p3 w0 b0_0 b0_20) [(.int (if (p0 &&& (16 : Int32)) = (0 : Int32) then (0 : Int32) else (1 : Int32)))])) t
    refine XS.istore X17.here hx rfl (hb hby at_97) rfl (l' := (la0_7 p0 p1 q2 p3 w0 b0_0 b0_20)) rfl ?_
    show Steps p.tables e below (T17.setTop (mkF m 99 (la0_7 p0 p1 q2 p3 w0 b0_0 b0_20) [])) t
    refine XS.aload X17.here hx rfl (hb hby at_99) rfl rfl ?_
    show Steps p.tables e below (T17.setTop (mkF m 101 (la0_7 p0 p1 q2 p3 w0 b0_0 b0_20) [(.ref b0_20)])) t
    refine XS.iload X17.here hx rfl (hb hby at_101) rfl ?_
    show Steps p.tables e below (T17.setTop (mkF m 103 (la0_7 p0 p1 q2 p3 w0 b0_0 b0_20) [(.int (v0_43 p0 p1 q2 p3 w0)), (.ref b0_20)])) t
    exact k
  obtain ⟨cq24, kq24, q24a, q24b, q24c⟩ := isOf hZ rfl u17_1
  obtain ⟨_, _, ⟨T24, L24, k24, n24⟩, -, X24, ⟨Lc24, hQ24, l24, y24, z24⟩, st24⟩ := X17.virtualBack hx (y := (⟨"com/example/xixi/xixi/consumer/PullRequest", "holdBack", "(Z)Z"⟩ : MethodName)) (z := (⟨"com/example/xixi/xixi/consumer/PullRequest", "holdBack", "(Z)Z"⟩ : MethodName)) hown (mvT hZ (hw _ (List.mem_of_getElem? (i := 97) rfl))) (mvT hZ (hw _ (List.mem_of_getElem? (i := 98) rfl))) (notFace_of_selects (args := #[]) (mvT hZ (hw _ (List.mem_of_getElem? (i := 100) rfl)))) (mvT hZ (hw _ (List.mem_of_getElem? (i := 100) rfl))) (mvT hZ (hw _ (List.mem_of_getElem? (i := 99) rfl))) (by decide) (backOf (W := 0) (rm13 l Z aZ hw [] b0_20 (v0_43 p0 p1 q2 p3 w0) (0 : Int32) T17.heap n0 Z17 u17_2 u17_1 gle_b0_20) hZ (hw _ (List.mem_of_getElem? (i := 101) rfl)) (hw _ (List.mem_of_getElem? (i := 44) rfl)) (by decide) (by decide)) q24a q24c (g := (mkF m 103 (la0_7 p0 p1 q2 p3 w0 b0_0 b0_20) [(.int (v0_43 p0 p1 q2 p3 w0)), (.ref b0_20)])) rfl (by rw [hml]; rfl) (Steps.refl _) (argsL := [(.int (v0_43 p0 p1 q2 p3 w0))]) (rest := []) (lenOf pd__Z_Z rfl) rfl (by show 2 * 0 + _ ≤ _; exact Nat.le_of_eq rfl) (hb hby at_103) (fun _ _ => ⟨rfl, rfl, (by decide : 7 + 0 ≤ _), (by decide : 28 + 0 ≤ _)⟩)
  dsimp only [Pt.U, Pt.locs, Pt.cells, Pt.slots] at X24 l24 y24 z24 st24 hQ24
  subst l24 y24 z24
  obtain ⟨rfl, N24q, u24_0, u24_1, u24_2⟩ := hQ24
  have N24 := Fr.app N17 N24q
  have Z24 : n0 ≤ T24.heap.size := Nat.le_trans Z17 u24_0.1
  have fc25 : Exa Z T24.heap b0_0 "com/example/xixi/xixi/consumer/TopicQueue" := (fc18.keep u24_0)
  refine OEnd.go (g' := (mkF m 106 (la0_7 p0 p1 q2 p3 w0 b0_0 b0_20) [(.int (f13 (v0_43 p0 p1 q2 p3 w0) (0 : Int32)))])) (fun _ k => st24.trans k) ?_
  refine OEnd.go (T' := T24) (g' := (mkF m 112 (la0_8 p0 p1 q2 p3 w0 b0_0 b0_20) [(.int (v0_56 p0 p1 q2 p3 w0)), (.ref b0_20)])) (fun t k => ?_) ?_
  · show Steps p.tables e below (T24.setTop (mkF m 106 (la0_7 p0 p1 q2 p3 w0 b0_0 b0_20) [(.int (f13 (v0_43 p0 p1 q2 p3 w0) (0 : Int32)))])) t
    refine XS.istore X24.here hx rfl (hb hby at_106) rfl (l' := (la0_8 p0 p1 q2 p3 w0 b0_0 b0_20)) rfl ?_
    show Steps p.tables e below (T24.setTop (mkF m 108 (la0_8 p0 p1 q2 p3 w0 b0_0 b0_20) [])) t
    refine XS.aload X24.here hx rfl (hb hby at_108) rfl rfl ?_
    show Steps p.tables e below (T24.setTop (mkF m 110 (la0_8 p0 p1 q2 p3 w0 b0_0 b0_20) [(.ref b0_20)])) t
    refine XS.iload X24.here hx rfl (hb hby at_110) rfl ?_
    show Steps p.tables e below (T24.setTop (mkF m 112 (la0_8 p0 p1 q2 p3 w0 b0_0 b0_20) [(.int (v0_56 p0 p1 q2 p3 w0)), (.ref b0_20)])) t
    exact k
  obtain ⟨cq26, kq26, q26a, q26b, q26c⟩ := isOf hZ rfl u24_1
  obtain ⟨_, _, ⟨T26, L26, k26, n26⟩, -, X26, ⟨Lc26, hQ26, l26, y26, z26⟩, st26⟩ := X24.virtualBack hx (y := (⟨"com/example/xixi/xixi/consumer/PullRequest", "holdBack", "(Z)Z"⟩ : MethodName)) (z := (⟨"com/example/xixi/xixi/consumer/PullRequest", "holdBack", "(Z)Z"⟩ : MethodName)) hown (mvT hZ (hw _ (List.mem_of_getElem? (i := 97) rfl))) (mvT hZ (hw _ (List.mem_of_getElem? (i := 98) rfl))) (notFace_of_selects (args := #[]) (mvT hZ (hw _ (List.mem_of_getElem? (i := 100) rfl)))) (mvT hZ (hw _ (List.mem_of_getElem? (i := 100) rfl))) (mvT hZ (hw _ (List.mem_of_getElem? (i := 99) rfl))) (by decide) (backOf (W := 0) (rm13 l Z aZ hw [] b0_20 (v0_56 p0 p1 q2 p3 w0) (nar .boolean (v0_43 p0 p1 q2 p3 w0)) T24.heap n0 Z24 u24_2 u24_1 gle_b0_20) hZ (hw _ (List.mem_of_getElem? (i := 101) rfl)) (hw _ (List.mem_of_getElem? (i := 44) rfl)) (by decide) (by decide)) q26a q26c (g := (mkF m 112 (la0_8 p0 p1 q2 p3 w0 b0_0 b0_20) [(.int (v0_56 p0 p1 q2 p3 w0)), (.ref b0_20)])) rfl (by rw [hml]; rfl) (Steps.refl _) (argsL := [(.int (v0_56 p0 p1 q2 p3 w0))]) (rest := []) (lenOf pd__Z_Z rfl) rfl (by show 2 * 0 + _ ≤ _; exact Nat.le_of_eq rfl) (hb hby at_112) (fun _ _ => ⟨rfl, rfl, (by decide : 7 + 0 ≤ _), (by decide : 28 + 0 ≤ _)⟩)
  dsimp only [Pt.U, Pt.locs, Pt.cells, Pt.slots] at X26 l26 y26 z26 st26 hQ26
  subst l26 y26 z26
  obtain ⟨rfl, N26q, u26_0, u26_1, u26_2⟩ := hQ26
  have N26 := Fr.app N24 N26q
  have Z26 : n0 ≤ T26.heap.size := Nat.le_trans Z24 u26_0.1
  have fc27 : Exa Z T26.heap b0_0 "com/example/xixi/xixi/consumer/TopicQueue" := (fc25.keep u26_0)
  refine OEnd.go (g' := (mkF m 115 (la0_8 p0 p1 q2 p3 w0 b0_0 b0_20) [(.int (f13 (v0_56 p0 p1 q2 p3 w0) (nar .boolean (v0_43 p0 p1 q2 p3 w0))))])) (fun _ k => st26.trans k) ?_
  refine OEnd.go (T' := T26) (g' := (mkF m 121 (la0_9 p0 p1 q2 p3 w0 b0_0 b0_20) [(.int (v0_69 p0 p1 q2 p3 w0)), (.ref b0_20)])) (fun t k => ?_) ?_
  · show Steps p.tables e below (T26.setTop (mkF m 115 (la0_8 p0 p1 q2 p3 w0 b0_0 b0_20) [(.int (f13 (v0_56 p0 p1 q2 p3 w0) (nar .boolean (v0_43 p0 p1 q2 p3 w0))))])) t
    refine XS.istore X26.here hx rfl (hb hby at_115) rfl (l' := (la0_9 p0 p1 q2 p3 w0 b0_0 b0_20)) rfl ?_
    show Steps p.tables e below (T26.setTop (mkF m 117 (la0_9 p0 p1 q2 p3 w0 b0_0 b0_20) [])) t
    refine XS.aload X26.here hx rfl (hb hby at_117) rfl rfl ?_
    show Steps p.tables e below (T26.setTop (mkF m 119 (la0_9 p0 p1 q2 p3 w0 b0_0 b0_20) [(.ref b0_20)])) t
    refine XS.iload X26.here hx rfl (hb hby at_119) rfl ?_
    show Steps p.tables e below (T26.setTop (mkF m 121 (la0_9 p0 p1 q2 p3 w0 b0_0 b0_20) [(.int (v0_69 p0 p1 q2 p3 w0)), (.ref b0_20)])) t
    exact k
  obtain ⟨cq28, kq28, q28a, q28b, q28c⟩ := isOf hZ rfl u26_1
  obtain ⟨_, _, ⟨T28, L28, k28, n28⟩, -, X28, ⟨Lc28, hQ28, l28, y28, z28⟩, st28⟩ := X26.virtualBack hx (y := (⟨"com/example/xixi/xixi/consumer/PullRequest", "holdBack", "(Z)Z"⟩ : MethodName)) (z := (⟨"com/example/xixi/xixi/consumer/PullRequest", "holdBack", "(Z)Z"⟩ : MethodName)) hown (mvT hZ (hw _ (List.mem_of_getElem? (i := 97) rfl))) (mvT hZ (hw _ (List.mem_of_getElem? (i := 98) rfl))) (notFace_of_selects (args := #[]) (mvT hZ (hw _ (List.mem_of_getElem? (i := 100) rfl)))) (mvT hZ (hw _ (List.mem_of_getElem? (i := 100) rfl))) (mvT hZ (hw _ (List.mem_of_getElem? (i := 99) rfl))) (by decide) (backOf (W := 0) (rm13 l Z aZ hw [] b0_20 (v0_69 p0 p1 q2 p3 w0) (nar .boolean (v0_56 p0 p1 q2 p3 w0)) T26.heap n0 Z26 u26_2 u26_1 gle_b0_20) hZ (hw _ (List.mem_of_getElem? (i := 101) rfl)) (hw _ (List.mem_of_getElem? (i := 44) rfl)) (by decide) (by decide)) q28a q28c (g := (mkF m 121 (la0_9 p0 p1 q2 p3 w0 b0_0 b0_20) [(.int (v0_69 p0 p1 q2 p3 w0)), (.ref b0_20)])) rfl (by rw [hml]; rfl) (Steps.refl _) (argsL := [(.int (v0_69 p0 p1 q2 p3 w0))]) (rest := []) (lenOf pd__Z_Z rfl) rfl (by show 2 * 0 + _ ≤ _; exact Nat.le_of_eq rfl) (hb hby at_121) (fun _ _ => ⟨rfl, rfl, (by decide : 7 + 0 ≤ _), (by decide : 28 + 0 ≤ _)⟩)
  dsimp only [Pt.U, Pt.locs, Pt.cells, Pt.slots] at X28 l28 y28 z28 st28 hQ28
  subst l28 y28 z28
  obtain ⟨rfl, N28q, u28_0, u28_1, u28_2⟩ := hQ28
  have N28 := Fr.app N26 N28q
  have Z28 : n0 ≤ T28.heap.size := Nat.le_trans Z26 u28_0.1
  have fc29 : Exa Z T28.heap b0_0 "com/example/xixi/xixi/consumer/TopicQueue" := (fc27.keep u28_0)
  refine OEnd.go (g' := (mkF m 124 (la0_9 p0 p1 q2 p3 w0 b0_0 b0_20) [(.int (f13 (v0_69 p0 p1 q2 p3 w0) (nar .boolean (v0_56 p0 p1 q2 p3 w0))))])) (fun _ k => st28.trans k) ?_
  refine OEnd.go (T' := T28) (g' := (mkF m 130 (la0_10 p0 p1 q2 p3 w0 b0_0 b0_20) [(.int (v0_83 p0 p1 q2 p3 w0)), (.ref b0_20)])) (fun t k => ?_) ?_
  · show Steps p.tables e below (T28.setTop (mkF m 124 (la0_9 p0 p1 q2 p3 w0 b0_0 b0_20) [(.int (f13 (v0_69 p0 p1 q2 p3 w0) (nar .boolean (v0_56 p0 p1 q2 p3 w0))))])) t
    refine XS.istore X28.here hx rfl (hb hby at_124) rfl (l' := (la0_10 p0 p1 q2 p3 w0 b0_0 b0_20)) rfl ?_
    show Steps p.tables e below (T28.setTop (mkF m 126 (la0_10 p0 p1 q2 p3 w0 b0_0 b0_20) [])) t
    refine XS.aload X28.here hx rfl (hb hby at_126) rfl rfl ?_
    show Steps p.tables e below (T28.setTop (mkF m 128 (la0_10 p0 p1 q2 p3 w0 b0_0 b0_20) [(.ref b0_20)])) t
    refine XS.iload X28.here hx rfl (hb hby at_128) rfl ?_
    show Steps p.tables e below (T28.setTop (mkF m 130 (la0_10 p0 p1 q2 p3 w0 b0_0 b0_20) [(.int (v0_83 p0 p1 q2 p3 w0)), (.ref b0_20)])) t
    exact k
  obtain ⟨cq30, kq30, q30a, q30b, q30c⟩ := isOf hZ rfl u28_1
  obtain ⟨_, _, ⟨T30, L30, k30, n30⟩, -, X30, ⟨Lc30, hQ30, l30, y30, z30⟩, st30⟩ := X28.virtualBack hx (y := (⟨"com/example/xixi/xixi/consumer/PullRequest", "holdBack", "(Z)Z"⟩ : MethodName)) (z := (⟨"com/example/xixi/xixi/consumer/PullRequest", "holdBack", "(Z)Z"⟩ : MethodName)) hown (mvT hZ (hw _ (List.mem_of_getElem? (i := 97) rfl))) (mvT hZ (hw _ (List.mem_of_getElem? (i := 98) rfl))) (notFace_of_selects (args := #[]) (mvT hZ (hw _ (List.mem_of_getElem? (i := 100) rfl)))) (mvT hZ (hw _ (List.mem_of_getElem? (i := 100) rfl))) (mvT hZ (hw _ (List.mem_of_getElem? (i := 99) rfl))) (by decide) (backOf (W := 0) (rm13 l Z aZ hw [] b0_20 (v0_83 p0 p1 q2 p3 w0) (nar .boolean (v0_69 p0 p1 q2 p3 w0)) T28.heap n0 Z28 u28_2 u28_1 gle_b0_20) hZ (hw _ (List.mem_of_getElem? (i := 101) rfl)) (hw _ (List.mem_of_getElem? (i := 44) rfl)) (by decide) (by decide)) q30a q30c (g := (mkF m 130 (la0_10 p0 p1 q2 p3 w0 b0_0 b0_20) [(.int (v0_83 p0 p1 q2 p3 w0)), (.ref b0_20)])) rfl (by rw [hml]; rfl) (Steps.refl _) (argsL := [(.int (v0_83 p0 p1 q2 p3 w0))]) (rest := []) (lenOf pd__Z_Z rfl) rfl (by show 2 * 0 + _ ≤ _; exact Nat.le_of_eq rfl) (hb hby at_130) (fun _ _ => ⟨rfl, rfl, (by decide : 7 + 0 ≤ _), (by decide : 28 + 0 ≤ _)⟩)
  dsimp only [Pt.U, Pt.locs, Pt.cells, Pt.slots] at X30 l30 y30 z30 st30 hQ30
  subst l30 y30 z30
  obtain ⟨rfl, N30q, u30_0, u30_1, u30_2⟩ := hQ30
  have N30 := Fr.app N28 N30q
  have Z30 : n0 ≤ T30.heap.size := Nat.le_trans Z28 u30_0.1
  have fc31 : Exa Z T30.heap b0_0 "com/example/xixi/xixi/consumer/TopicQueue" := (fc29.keep u30_0)
  refine OEnd.go (g' := (mkF m 133 (la0_10 p0 p1 q2 p3 w0 b0_0 b0_20) [(.int (f13 (v0_83 p0 p1 q2 p3 w0) (nar .boolean (v0_69 p0 p1 q2 p3 w0))))])) (fun _ k => st30.trans k) ?_
  refine OEnd.go (T' := T30) (g' := (mkF m 139 (la0_11 p0 p1 q2 p3 w0 b0_0 b0_20) [(.int (v0_97 p0 p1 q2 p3 w0)), (.ref b0_20)])) (fun t k => ?_) ?_
  · show Steps p.tables e below (T30.setTop (mkF m 133 (la0_10 p0 p1 q2 p3 w0 b0_0 b0_20) [(.int (f13 (v0_83 p0 p1 q2 p3 w0) (nar .boolean (v0_69 p0 p1 q2 p3 w0))))])) t
    refine XS.istore X30.here hx rfl (hb hby at_133) rfl (l' := (la0_11 p0 p1 q2 p3 w0 b0_0 b0_20)) rfl ?_
    show Steps p.tables e below (T30.setTop (mkF m 135 (la0_11 p0 p1 q2 p3 w0 b0_0 b0_20) [])) t
    refine XS.aload X30.here hx rfl (hb hby at_135) rfl rfl ?_
    show Steps p.tables e below (T30.setTop (mkF m 137 (la0_11 p0 p1 q2 p3 w0 b0_0 b0_20) [(.ref b0_20)])) t
    refine XS.iload X30.here hx rfl (hb hby at_137) rfl ?_
    show Steps p.tables e below (T30.setTop (mkF m 139 (la0_11 p0 p1 q2 p3 w0 b0_0 b0_20) [(.int (v0_97 p0 p1 q2 p3 w0)), (.ref b0_20)])) t
    exact k
  obtain ⟨cq32, kq32, q32a, q32b, q32c⟩ := isOf hZ rfl u30_1
  obtain ⟨_, _, ⟨T32, L32, k32, n32⟩, -, X32, ⟨Lc32, hQ32, l32, y32, z32⟩, st32⟩ := X30.virtualBack hx (y := (⟨"com/example/xixi/xixi/consumer/PullRequest", "holdBack", "(Z)Z"⟩ : MethodName)) (z := (⟨"com/example/xixi/xixi/consumer/PullRequest", "holdBack", "(Z)Z"⟩ : MethodName)) hown (mvT hZ (hw _ (List.mem_of_getElem? (i := 97) rfl))) (mvT hZ (hw _ (List.mem_of_getElem? (i := 98) rfl))) (notFace_of_selects (args := #[]) (mvT hZ (hw _ (List.mem_of_getElem? (i := 100) rfl)))) (mvT hZ (hw _ (List.mem_of_getElem? (i := 100) rfl))) (mvT hZ (hw _ (List.mem_of_getElem? (i := 99) rfl))) (by decide) (backOf (W := 0) (rm13 l Z aZ hw [] b0_20 (v0_97 p0 p1 q2 p3 w0) (nar .boolean (v0_83 p0 p1 q2 p3 w0)) T30.heap n0 Z30 u30_2 u30_1 gle_b0_20) hZ (hw _ (List.mem_of_getElem? (i := 101) rfl)) (hw _ (List.mem_of_getElem? (i := 44) rfl)) (by decide) (by decide)) q32a q32c (g := (mkF m 139 (la0_11 p0 p1 q2 p3 w0 b0_0 b0_20) [(.int (v0_97 p0 p1 q2 p3 w0)), (.ref b0_20)])) rfl (by rw [hml]; rfl) (Steps.refl _) (argsL := [(.int (v0_97 p0 p1 q2 p3 w0))]) (rest := []) (lenOf pd__Z_Z rfl) rfl (by show 2 * 0 + _ ≤ _; exact Nat.le_of_eq rfl) (hb hby at_139) (fun _ _ => ⟨rfl, rfl, (by decide : 7 + 0 ≤ _), (by decide : 28 + 0 ≤ _)⟩)
  dsimp only [Pt.U, Pt.locs, Pt.cells, Pt.slots] at X32 l32 y32 z32 st32 hQ32
  subst l32 y32 z32
  obtain ⟨rfl, N32q, u32_0, u32_1, u32_2⟩ := hQ32
  have N32 := Fr.app N30 N32q
  have Z32 : n0 ≤ T32.heap.size := Nat.le_trans Z30 u32_0.1
  have fc33 : Exa Z T32.heap b0_0 "com/example/xixi/xixi/consumer/TopicQueue" := (fc31.keep u32_0)
  refine OEnd.go (g' := (mkF m 142 (la0_11 p0 p1 q2 p3 w0 b0_0 b0_20) [(.int (f13 (v0_97 p0 p1 q2 p3 w0) (nar .boolean (v0_83 p0 p1 q2 p3 w0))))])) (fun _ k => st32.trans k) ?_
  refine OEnd.go (T' := T32) (g' := (mkF m 148 (la0_12 p0 p1 q2 p3 w0 b0_0 b0_20) [(.int (v0_43 p0 p1 q2 p3 w0)), (.int (v0_106 p0 p1 q2 p3 w0))])) (fun t k => ?_) ?_
  · show Steps p.tables e below (T32.setTop (mkF m 142 (la0_11 p0 p1 q2 p3 w0 b0_0 b0_20) [(.int (f13 (v0_97 p0 p1 q2 p3 w0) (nar .boolean (v0_83 p0 p1 q2 p3 w0))))])) t
    refine XS.istore X32.here hx rfl (hb hby at_142) rfl (l' := (la0_12 p0 p1 q2 p3 w0 b0_0 b0_20)) rfl ?_
    show Steps p.tables e below (T32.setTop (mkF m 144 (la0_12 p0 p1 q2 p3 w0 b0_0 b0_20) [])) t
    refine XS.iload X32.here hx rfl (hb hby at_144) rfl ?_
    show Steps p.tables e below (T32.setTop (mkF m 146 (la0_12 p0 p1 q2 p3 w0 b0_0 b0_20) [(.int (v0_106 p0 p1 q2 p3 w0))])) t
    refine XS.iload X32.here hx rfl (hb hby at_146) rfl ?_
    show Steps p.tables e below (T32.setTop (mkF m 148 (la0_12 p0 p1 q2 p3 w0 b0_0 b0_20) [(.int (v0_43 p0 p1 q2 p3 w0)), (.int (v0_106 p0 p1 q2 p3 w0))])) t
    exact k
  refine OEnd.go (T' := T32) (g' := (mkF m 156 (la0_12 p0 p1 q2 p3 w0 b0_0 b0_20) [(.int (if (v0_106 p0 p1 q2 p3 w0) = (v0_43 p0 p1 q2 p3 w0) then (1 : Int32) else (0 : Int32)))])) (fun t k => ?_) ?_
  · show Steps p.tables e below (T32.setTop (mkF m 148 (la0_12 p0 p1 q2 p3 w0 b0_0 b0_20) [(.int (v0_43 p0 p1 q2 p3 w0)), (.int (v0_106 p0 p1 q2 p3 w0))])) t
    by_cases hc34 : (v0_106 p0 p1 q2 p3 w0) = (v0_43 p0 p1 q2 p3 w0)
    · skip
      refine XS.icmpNo X32.here hx rfl (hb hby at_148) rfl (teq (hc34)).2 ?_
      show Steps p.tables e below (T32.setTop (mkF m 151 (la0_12 p0 p1 q2 p3 w0 b0_0 b0_20) [])) t
      refine SGo.go (T' := T32) (g' := (mkF m 156 (la0_12 p0 p1 q2 p3 w0 b0_0 b0_20) [(.int (1 : Int32))])) (fun t k => ?_) ?_
      · show Steps p.tables e below (T32.setTop (mkF m 151 (la0_12 p0 p1 q2 p3 w0 b0_0 b0_20) [])) t
        refine XS.iconst X32.here hx rfl (hb hby at_151) ?_
        show Steps p.tables e below (T32.setTop (mkF m 152 (la0_12 p0 p1 q2 p3 w0 b0_0 b0_20) [(.int (1 : Int32))])) t
        refine XS.goto X32.here hx rfl (pc0 := 152) (pc' := 156) rfl (hb hby at_152) (by decide) (by decide) ?_
        show Steps p.tables e below (T32.setTop (mkF m 156 (la0_12 p0 p1 q2 p3 w0 b0_0 b0_20) [(.int (1 : Int32))])) t
        exact k
      exact (own_k (f := fun (z : Int32) => mkF m 156 #[.val (.int p0), .val (.int p1), .val (.long q2), .second, .val (.int p3), .val (.ref b0_0), .val (.ref b0_20), .val (.int (v0_43 p0 p1 q2 p3 w0)), .val (.int (v0_56 p0 p1 q2 p3 w0)), .val (.int (v0_69 p0 p1 q2 p3 w0)), .val (.int (v0_83 p0 p1 q2 p3 w0)), .val (.int (v0_97 p0 p1 q2 p3 w0)), .val (.int (v0_106 p0 p1 q2 p3 w0)), .val (.int (v0_115 p0 p1 q2 p3 w0)), .val (.int (v0_124 p0 p1 q2 p3 w0)), .val (.int (v0_133 p0 p1 q2 p3 w0)), .val (.int (v0_142 p0 p1 q2 p3 w0)), .unset, .unset, .unset, .unset, .unset] [(.int z)]) (if_pos hc34) k)
    · skip
      refine XS.icmpYes X32.here hx rfl (pc0 := 148) (pc' := 155) rfl (hb hby at_148) rfl (feq (hc34)).2 (by decide) (by decide) ?_
      show Steps p.tables e below (T32.setTop (mkF m 155 (la0_12 p0 p1 q2 p3 w0 b0_0 b0_20) [])) t
      refine SGo.go (T' := T32) (g' := (mkF m 156 (la0_12 p0 p1 q2 p3 w0 b0_0 b0_20) [(.int (0 : Int32))])) (fun t k => ?_) ?_
      · show Steps p.tables e below (T32.setTop (mkF m 155 (la0_12 p0 p1 q2 p3 w0 b0_0 b0_20) [])) t
        refine XS.iconst X32.here hx rfl (hb hby at_155) ?_
        show Steps p.tables e below (T32.setTop (mkF m 156 (la0_12 p0 p1 q2 p3 w0 b0_0 b0_20) [(.int (0 : Int32))])) t
        exact k
      exact (own_k (f := fun (z : Int32) => mkF m 156 #[.val (.int p0), .val (.int p1), .val (.long q2), .second, .val (.int p3), .val (.ref b0_0), .val (.ref b0_20), .val (.int (v0_43 p0 p1 q2 p3 w0)), .val (.int (v0_56 p0 p1 q2 p3 w0)), .val (.int (v0_69 p0 p1 q2 p3 w0)), .val (.int (v0_83 p0 p1 q2 p3 w0)), .val (.int (v0_97 p0 p1 q2 p3 w0)), .val (.int (v0_106 p0 p1 q2 p3 w0)), .val (.int (v0_115 p0 p1 q2 p3 w0)), .val (.int (v0_124 p0 p1 q2 p3 w0)), .val (.int (v0_133 p0 p1 q2 p3 w0)), .val (.int (v0_142 p0 p1 q2 p3 w0)), .unset, .unset, .unset, .unset, .unset] [(.int z)]) (if_neg hc34) k)
  refine OEnd.go (T' := T32) (g' := (mkF m 162 (la0_13 p0 p1 q2 p3 w0 b0_0 b0_20) [(.int (v0_56 p0 p1 q2 p3 w0)), (.int (v0_115 p0 p1 q2 p3 w0))])) (fun t k => ?_) ?_
  · show Steps p.tables e below (T32.setTop (mkF m 156 (la0_12 p0 p1 q2 p3 w0 b0_0 b0_20) [(.int (if (v0_106 p0 p1 q2 p3 w0) = (v0_43 p0 p1 q2 p3 w0) then (1 : Int32) else (0 : Int32)))])) t
    refine XS.istore X32.here hx rfl (hb hby at_156) rfl (l' := (la0_13 p0 p1 q2 p3 w0 b0_0 b0_20)) rfl ?_
    show Steps p.tables e below (T32.setTop (mkF m 158 (la0_13 p0 p1 q2 p3 w0 b0_0 b0_20) [])) t
    refine XS.iload X32.here hx rfl (hb hby at_158) rfl ?_
    show Steps p.tables e below (T32.setTop (mkF m 160 (la0_13 p0 p1 q2 p3 w0 b0_0 b0_20) [(.int (v0_115 p0 p1 q2 p3 w0))])) t
    refine XS.iload X32.here hx rfl (hb hby at_160) rfl ?_
    show Steps p.tables e below (T32.setTop (mkF m 162 (la0_13 p0 p1 q2 p3 w0 b0_0 b0_20) [(.int (v0_56 p0 p1 q2 p3 w0)), (.int (v0_115 p0 p1 q2 p3 w0))])) t
    exact k
  refine OEnd.go (T' := T32) (g' := (mkF m 175 (la0_13 p0 p1 q2 p3 w0 b0_0 b0_20) [(.int (if (v0_56 p0 p1 q2 p3 w0) = (0 : Int32) then (0 : Int32) else (if (v0_43 p0 p1 q2 p3 w0) = (0 : Int32) then (1 : Int32) else (0 : Int32)))), (.int (v0_115 p0 p1 q2 p3 w0))])) (fun t k => ?_) ?_
  · show Steps p.tables e below (T32.setTop (mkF m 162 (la0_13 p0 p1 q2 p3 w0 b0_0 b0_20) [(.int (v0_56 p0 p1 q2 p3 w0)), (.int (v0_115 p0 p1 q2 p3 w0))])) t
    by_cases hc35 : (v0_56 p0 p1 q2 p3 w0) = (0 : Int32)
    · skip
      refine XS.ifYes X32.here hx rfl (pc0 := 162) (pc' := 174) rfl (hb hby at_162) rfl ((if0 _ _).trans (teq (hc35)).1) (by decide) (by decide) ?_
      show Steps p.tables e below (T32.setTop (mkF m 174 (la0_13 p0 p1 q2 p3 w0 b0_0 b0_20) [(.int (v0_115 p0 p1 q2 p3 w0))])) t
      refine SGo.go (T' := T32) (g' := (mkF m 175 (la0_13 p0 p1 q2 p3 w0 b0_0 b0_20) [(.int (0 : Int32)), (.int (v0_115 p0 p1 q2 p3 w0))])) (fun t k => ?_) ?_
      · show Steps p.tables e below (T32.setTop (mkF m 174 (la0_13 p0 p1 q2 p3 w0 b0_0 b0_20) [(.int (v0_115 p0 p1 q2 p3 w0))])) t
        refine XS.iconst X32.here hx rfl (hb hby at_174) ?_
        show Steps p.tables e below (T32.setTop (mkF m 175 (la0_13 p0 p1 q2 p3 w0 b0_0 b0_20) [(.int (0 : Int32)), (.int (v0_115 p0 p1 q2 p3 w0))])) t
        exact k
      exact (own_k (f := fun (z : Int32) => mkF m 175 #[.val (.int p0), .val (.int p1), .val (.long q2), .second, .val (.int p3), .val (.ref b0_0), .val (.ref b0_20), .val (.int (v0_43 p0 p1 q2 p3 w0)), .val (.int (v0_56 p0 p1 q2 p3 w0)), .val (.int (v0_69 p0 p1 q2 p3 w0)), .val (.int (v0_83 p0 p1 q2 p3 w0)), .val (.int (v0_97 p0 p1 q2 p3 w0)), .val (.int (v0_106 p0 p1 q2 p3 w0)), .val (.int (v0_115 p0 p1 q2 p3 w0)), .val (.int (v0_124 p0 p1 q2 p3 w0)), .val (.int (v0_133 p0 p1 q2 p3 w0)), .val (.int (v0_142 p0 p1 q2 p3 w0)), .val (.int (v0_156 p0 p1 q2 p3 w0)), .unset, .unset, .unset, .unset] [(.int z), (.int (v0_115 p0 p1 q2 p3 w0))]) (if_pos hc35) k)
    · skip
      refine XS.ifNo X32.here hx rfl (hb hby at_162) rfl ((if0 _ _).trans (feq (hc35)).1) ?_
      show Steps p.tables e below (T32.setTop (mkF m 165 (la0_13 p0 p1 q2 p3 w0 b0_0 b0_20) [(.int (v0_115 p0 p1 q2 p3 w0))])) t
      refine SGo.go (T' := T32) (g' := (mkF m 167 (la0_13 p0 p1 q2 p3 w0 b0_0 b0_20) [(.int (v0_43 p0 p1 q2 p3 w0)), (.int (v0_115 p0 p1 q2 p3 w0))])) (fun t k => ?_) ?_
      · show Steps p.tables e below (T32.setTop (mkF m 165 (la0_13 p0 p1 q2 p3 w0 b0_0 b0_20) [(.int (v0_115 p0 p1 q2 p3 w0))])) t
        refine XS.iload X32.here hx rfl (hb hby at_165) rfl ?_
        show Steps p.tables e below (T32.setTop (mkF m 167 (la0_13 p0 p1 q2 p3 w0 b0_0 b0_20) [(.int (v0_43 p0 p1 q2 p3 w0)), (.int (v0_115 p0 p1 q2 p3 w0))])) t
        exact k
      by_cases hc36 : (v0_43 p0 p1 q2 p3 w0) = (0 : Int32)
      · skip
        refine XS.ifNo X32.here hx rfl (hb hby at_167) rfl ((if0 _ _).trans (teq (hc36)).2) ?_
        show Steps p.tables e below (T32.setTop (mkF m 170 (la0_13 p0 p1 q2 p3 w0 b0_0 b0_20) [(.int (v0_115 p0 p1 q2 p3 w0))])) t
        refine SGo.go (T' := T32) (g' := (mkF m 175 (la0_13 p0 p1 q2 p3 w0 b0_0 b0_20) [(.int (1 : Int32)), (.int (v0_115 p0 p1 q2 p3 w0))])) (fun t k => ?_) ?_
        · show Steps p.tables e below (T32.setTop (mkF m 170 (la0_13 p0 p1 q2 p3 w0 b0_0 b0_20) [(.int (v0_115 p0 p1 q2 p3 w0))])) t
          refine XS.iconst X32.here hx rfl (hb hby at_170) ?_
          show Steps p.tables e below (T32.setTop (mkF m 171 (la0_13 p0 p1 q2 p3 w0 b0_0 b0_20) [(.int (1 : Int32)), (.int (v0_115 p0 p1 q2 p3 w0))])) t
          refine XS.goto X32.here hx rfl (pc0 := 171) (pc' := 175) rfl (hb hby at_171) (by decide) (by decide) ?_
          show Steps p.tables e below (T32.setTop (mkF m 175 (la0_13 p0 p1 q2 p3 w0 b0_0 b0_20) [(.int (1 : Int32)), (.int (v0_115 p0 p1 q2 p3 w0))])) t
          exact k
        exact (own_k (f := fun (z : Int32) => mkF m 175 #[.val (.int p0), .val (.int p1), .val (.long q2), .second, .val (.int p3), .val (.ref b0_0), .val (.ref b0_20), .val (.int (v0_43 p0 p1 q2 p3 w0)), .val (.int (v0_56 p0 p1 q2 p3 w0)), .val (.int (v0_69 p0 p1 q2 p3 w0)), .val (.int (v0_83 p0 p1 q2 p3 w0)), .val (.int (v0_97 p0 p1 q2 p3 w0)), .val (.int (v0_106 p0 p1 q2 p3 w0)), .val (.int (v0_115 p0 p1 q2 p3 w0)), .val (.int (v0_124 p0 p1 q2 p3 w0)), .val (.int (v0_133 p0 p1 q2 p3 w0)), .val (.int (v0_142 p0 p1 q2 p3 w0)), .val (.int (v0_156 p0 p1 q2 p3 w0)), .unset, .unset, .unset, .unset] [(.int z), (.int (v0_115 p0 p1 q2 p3 w0))]) ((if_neg hc35).trans (if_pos hc36)) k)
      · skip
        refine XS.ifYes X32.here hx rfl (pc0 := 167) (pc' := 174) rfl (hb hby at_167) rfl ((if0 _ _).trans (feq (hc36)).2) (by decide) (by decide) ?_
        show Steps p.tables e below (T32.setTop (mkF m 174 (la0_13 p0 p1 q2 p3 w0 b0_0 b0_20) [(.int (v0_115 p0 p1 q2 p3 w0))])) t
        refine SGo.go (T' := T32) (g' := (mkF m 175 (la0_13 p0 p1 q2 p3 w0 b0_0 b0_20) [(.int (0 : Int32)), (.int (v0_115 p0 p1 q2 p3 w0))])) (fun t k => ?_) ?_
        · show Steps p.tables e below (T32.setTop (mkF m 174 (la0_13 p0 p1 q2 p3 w0 b0_0 b0_20) [(.int (v0_115 p0 p1 q2 p3 w0))])) t
          refine XS.iconst X32.here hx rfl (hb hby at_174) ?_
          show Steps p.tables e below (T32.setTop (mkF m 175 (la0_13 p0 p1 q2 p3 w0 b0_0 b0_20) [(.int (0 : Int32)), (.int (v0_115 p0 p1 q2 p3 w0))])) t
          exact k
        exact (own_k (f := fun (z : Int32) => mkF m 175 #[.val (.int p0), .val (.int p1), .val (.long q2), .second, .val (.int p3), .val (.ref b0_0), .val (.ref b0_20), .val (.int (v0_43 p0 p1 q2 p3 w0)), .val (.int (v0_56 p0 p1 q2 p3 w0)), .val (.int (v0_69 p0 p1 q2 p3 w0)), .val (.int (v0_83 p0 p1 q2 p3 w0)), .val (.int (v0_97 p0 p1 q2 p3 w0)), .val (.int (v0_106 p0 p1 q2 p3 w0)), .val (.int (v0_115 p0 p1 q2 p3 w0)), .val (.int (v0_124 p0 p1 q2 p3 w0)), .val (.int (v0_133 p0 p1 q2 p3 w0)), .val (.int (v0_142 p0 p1 q2 p3 w0)), .val (.int (v0_156 p0 p1 q2 p3 w0)), .unset, .unset, .unset, .unset] [(.int z), (.int (v0_115 p0 p1 q2 p3 w0))]) ((if_neg hc35).trans (if_neg hc36)) k)
  refine OEnd.go (T' := T32) (g' := (mkF m 183 (la0_13 p0 p1 q2 p3 w0 b0_0 b0_20) [(.int (if (v0_115 p0 p1 q2 p3 w0) = (v0_175_s0 p0 p1 q2 p3 w0) then (1 : Int32) else (0 : Int32)))])) (fun t k => ?_) ?_
  · show Steps p.tables e below (T32.setTop (mkF m 175 (la0_13 p0 p1 q2 p3 w0 b0_0 b0_20) [(.int (v0_175_s0 p0 p1 q2 p3 w0)), (.int (v0_115 p0 p1 q2 p3 w0))])) t
    by_cases hc37 : (v0_115 p0 p1 q2 p3 w0) = (v0_175_s0 p0 p1 q2 p3 w0)
    · skip
      refine XS.icmpNo X32.here hx rfl (hb hby at_175) rfl (teq (hc37)).2 ?_
      show Steps p.tables e below (T32.setTop (mkF m 178 (la0_13 p0 p1 q2 p3 w0 b0_0 b0_20) [])) t
      refine SGo.go (T' := T32) (g' := (mkF m 183 (la0_13 p0 p1 q2 p3 w0 b0_0 b0_20) [(.int (1 : Int32))])) (fun t k => ?_) ?_
      · show Steps p.tables e below (T32.setTop (mkF m 178 (la0_13 p0 p1 q2 p3 w0 b0_0 b0_20) [])) t
        refine XS.iconst X32.here hx rfl (hb hby at_178) ?_
        show Steps p.tables e below (T32.setTop (mkF m 179 (la0_13 p0 p1 q2 p3 w0 b0_0 b0_20) [(.int (1 : Int32))])) t
        refine XS.goto X32.here hx rfl (pc0 := 179) (pc' := 183) rfl (hb hby at_179) (by decide) (by decide) ?_
        show Steps p.tables e below (T32.setTop (mkF m 183 (la0_13 p0 p1 q2 p3 w0 b0_0 b0_20) [(.int (1 : Int32))])) t
        exact k
      exact (own_k (f := fun (z : Int32) => mkF m 183 #[.val (.int p0), .val (.int p1), .val (.long q2), .second, .val (.int p3), .val (.ref b0_0), .val (.ref b0_20), .val (.int (v0_43 p0 p1 q2 p3 w0)), .val (.int (v0_56 p0 p1 q2 p3 w0)), .val (.int (v0_69 p0 p1 q2 p3 w0)), .val (.int (v0_83 p0 p1 q2 p3 w0)), .val (.int (v0_97 p0 p1 q2 p3 w0)), .val (.int (v0_106 p0 p1 q2 p3 w0)), .val (.int (v0_115 p0 p1 q2 p3 w0)), .val (.int (v0_124 p0 p1 q2 p3 w0)), .val (.int (v0_133 p0 p1 q2 p3 w0)), .val (.int (v0_142 p0 p1 q2 p3 w0)), .val (.int (v0_156 p0 p1 q2 p3 w0)), .unset, .unset, .unset, .unset] [(.int z)]) (if_pos hc37) k)
    · skip
      refine XS.icmpYes X32.here hx rfl (pc0 := 175) (pc' := 182) rfl (hb hby at_175) rfl (feq (hc37)).2 (by decide) (by decide) ?_
      show Steps p.tables e below (T32.setTop (mkF m 182 (la0_13 p0 p1 q2 p3 w0 b0_0 b0_20) [])) t
      refine SGo.go (T' := T32) (g' := (mkF m 183 (la0_13 p0 p1 q2 p3 w0 b0_0 b0_20) [(.int (0 : Int32))])) (fun t k => ?_) ?_
      · show Steps p.tables e below (T32.setTop (mkF m 182 (la0_13 p0 p1 q2 p3 w0 b0_0 b0_20) [])) t
        refine XS.iconst X32.here hx rfl (hb hby at_182) ?_
        show Steps p.tables e below (T32.setTop (mkF m 183 (la0_13 p0 p1 q2 p3 w0 b0_0 b0_20) [(.int (0 : Int32))])) t
        exact k
      exact (own_k (f := fun (z : Int32) => mkF m 183 #[.val (.int p0), .val (.int p1), .val (.long q2), .second, .val (.int p3), .val (.ref b0_0), .val (.ref b0_20), .val (.int (v0_43 p0 p1 q2 p3 w0)), .val (.int (v0_56 p0 p1 q2 p3 w0)), .val (.int (v0_69 p0 p1 q2 p3 w0)), .val (.int (v0_83 p0 p1 q2 p3 w0)), .val (.int (v0_97 p0 p1 q2 p3 w0)), .val (.int (v0_106 p0 p1 q2 p3 w0)), .val (.int (v0_115 p0 p1 q2 p3 w0)), .val (.int (v0_124 p0 p1 q2 p3 w0)), .val (.int (v0_133 p0 p1 q2 p3 w0)), .val (.int (v0_142 p0 p1 q2 p3 w0)), .val (.int (v0_156 p0 p1 q2 p3 w0)), .unset, .unset, .unset, .unset] [(.int z)]) (if_neg hc37) k)
  refine OEnd.go (T' := T32) (g' := (mkF m 189 (la0_14 p0 p1 q2 p3 w0 b0_0 b0_20) [(.int (v0_69 p0 p1 q2 p3 w0)), (.int (v0_124 p0 p1 q2 p3 w0))])) (fun t k => ?_) ?_
  · show Steps p.tables e below (T32.setTop (mkF m 183 (la0_13 p0 p1 q2 p3 w0 b0_0 b0_20) [(.int (if (v0_115 p0 p1 q2 p3 w0) = (v0_175_s0 p0 p1 q2 p3 w0) then (1 : Int32) else (0 : Int32)))])) t
    refine XS.istore X32.here hx rfl (hb hby at_183) rfl (l' := (la0_14 p0 p1 q2 p3 w0 b0_0 b0_20)) rfl ?_
    show Steps p.tables e below (T32.setTop (mkF m 185 (la0_14 p0 p1 q2 p3 w0 b0_0 b0_20) [])) t
    refine XS.iload X32.here hx rfl (hb hby at_185) rfl ?_
    show Steps p.tables e below (T32.setTop (mkF m 187 (la0_14 p0 p1 q2 p3 w0 b0_0 b0_20) [(.int (v0_124 p0 p1 q2 p3 w0))])) t
    refine XS.iload X32.here hx rfl (hb hby at_187) rfl ?_
    show Steps p.tables e below (T32.setTop (mkF m 189 (la0_14 p0 p1 q2 p3 w0 b0_0 b0_20) [(.int (v0_69 p0 p1 q2 p3 w0)), (.int (v0_124 p0 p1 q2 p3 w0))])) t
    exact k
  refine OEnd.go (T' := T32) (g' := (mkF m 202 (la0_14 p0 p1 q2 p3 w0 b0_0 b0_20) [(.int (if (v0_69 p0 p1 q2 p3 w0) = (0 : Int32) then (0 : Int32) else (if (v0_56 p0 p1 q2 p3 w0) = (0 : Int32) then (1 : Int32) else (0 : Int32)))), (.int (v0_124 p0 p1 q2 p3 w0))])) (fun t k => ?_) ?_
  · show Steps p.tables e below (T32.setTop (mkF m 189 (la0_14 p0 p1 q2 p3 w0 b0_0 b0_20) [(.int (v0_69 p0 p1 q2 p3 w0)), (.int (v0_124 p0 p1 q2 p3 w0))])) t
    by_cases hc38 : (v0_69 p0 p1 q2 p3 w0) = (0 : Int32)
    · skip
      refine XS.ifYes X32.here hx rfl (pc0 := 189) (pc' := 201) rfl (hb hby at_189) rfl ((if0 _ _).trans (teq (hc38)).1) (by decide) (by decide) ?_
      show Steps p.tables e below (T32.setTop (mkF m 201 (la0_14 p0 p1 q2 p3 w0 b0_0 b0_20) [(.int (v0_124 p0 p1 q2 p3 w0))])) t
      refine SGo.go (T' := T32) (g' := (mkF m 202 (la0_14 p0 p1 q2 p3 w0 b0_0 b0_20) [(.int (0 : Int32)), (.int (v0_124 p0 p1 q2 p3 w0))])) (fun t k => ?_) ?_
      · show Steps p.tables e below (T32.setTop (mkF m 201 (la0_14 p0 p1 q2 p3 w0 b0_0 b0_20) [(.int (v0_124 p0 p1 q2 p3 w0))])) t
        refine XS.iconst X32.here hx rfl (hb hby at_201) ?_
        show Steps p.tables e below (T32.setTop (mkF m 202 (la0_14 p0 p1 q2 p3 w0 b0_0 b0_20) [(.int (0 : Int32)), (.int (v0_124 p0 p1 q2 p3 w0))])) t
        exact k
      exact (own_k (f := fun (z : Int32) => mkF m 202 #[.val (.int p0), .val (.int p1), .val (.long q2), .second, .val (.int p3), .val (.ref b0_0), .val (.ref b0_20), .val (.int (v0_43 p0 p1 q2 p3 w0)), .val (.int (v0_56 p0 p1 q2 p3 w0)), .val (.int (v0_69 p0 p1 q2 p3 w0)), .val (.int (v0_83 p0 p1 q2 p3 w0)), .val (.int (v0_97 p0 p1 q2 p3 w0)), .val (.int (v0_106 p0 p1 q2 p3 w0)), .val (.int (v0_115 p0 p1 q2 p3 w0)), .val (.int (v0_124 p0 p1 q2 p3 w0)), .val (.int (v0_133 p0 p1 q2 p3 w0)), .val (.int (v0_142 p0 p1 q2 p3 w0)), .val (.int (v0_156 p0 p1 q2 p3 w0)), .val (.int (v0_183 p0 p1 q2 p3 w0)), .unset, .unset, .unset] [(.int z), (.int (v0_124 p0 p1 q2 p3 w0))]) (if_pos hc38) k)
    · skip
      refine XS.ifNo X32.here hx rfl (hb hby at_189) rfl ((if0 _ _).trans (feq (hc38)).1) ?_
      show Steps p.tables e below (T32.setTop (mkF m 192 (la0_14 p0 p1 q2 p3 w0 b0_0 b0_20) [(.int (v0_124 p0 p1 q2 p3 w0))])) t
      refine SGo.go (T' := T32) (g' := (mkF m 194 (la0_14 p0 p1 q2 p3 w0 b0_0 b0_20) [(.int (v0_56 p0 p1 q2 p3 w0)), (.int (v0_124 p0 p1 q2 p3 w0))])) (fun t k => ?_) ?_
      · show Steps p.tables e below (T32.setTop (mkF m 192 (la0_14 p0 p1 q2 p3 w0 b0_0 b0_20) [(.int (v0_124 p0 p1 q2 p3 w0))])) t
        refine XS.iload X32.here hx rfl (hb hby at_192) rfl ?_
        show Steps p.tables e below (T32.setTop (mkF m 194 (la0_14 p0 p1 q2 p3 w0 b0_0 b0_20) [(.int (v0_56 p0 p1 q2 p3 w0)), (.int (v0_124 p0 p1 q2 p3 w0))])) t
        exact k
      by_cases hc39 : (v0_56 p0 p1 q2 p3 w0) = (0 : Int32)
      · skip
        refine XS.ifNo X32.here hx rfl (hb hby at_194) rfl ((if0 _ _).trans (teq (hc39)).2) ?_
        show Steps p.tables e below (T32.setTop (mkF m 197 (la0_14 p0 p1 q2 p3 w0 b0_0 b0_20) [(.int (v0_124 p0 p1 q2 p3 w0))])) t
        refine SGo.go (T' := T32) (g' := (mkF m 202 (la0_14 p0 p1 q2 p3 w0 b0_0 b0_20) [(.int (1 : Int32)), (.int (v0_124 p0 p1 q2 p3 w0))])) (fun t k => ?_) ?_
        · show Steps p.tables e below (T32.setTop (mkF m 197 (la0_14 p0 p1 q2 p3 w0 b0_0 b0_20) [(.int (v0_124 p0 p1 q2 p3 w0))])) t
          refine XS.iconst X32.here hx rfl (hb hby at_197) ?_
          show Steps p.tables e below (T32.setTop (mkF m 198 (la0_14 p0 p1 q2 p3 w0 b0_0 b0_20) [(.int (1 : Int32)), (.int (v0_124 p0 p1 q2 p3 w0))])) t
          refine XS.goto X32.here hx rfl (pc0 := 198) (pc' := 202) rfl (hb hby at_198) (by decide) (by decide) ?_
          show Steps p.tables e below (T32.setTop (mkF m 202 (la0_14 p0 p1 q2 p3 w0 b0_0 b0_20) [(.int (1 : Int32)), (.int (v0_124 p0 p1 q2 p3 w0))])) t
          exact k
        exact (own_k (f := fun (z : Int32) => mkF m 202 #[.val (.int p0), .val (.int p1), .val (.long q2), .second, .val (.int p3), .val (.ref b0_0), .val (.ref b0_20), .val (.int (v0_43 p0 p1 q2 p3 w0)), .val (.int (v0_56 p0 p1 q2 p3 w0)), .val (.int (v0_69 p0 p1 q2 p3 w0)), .val (.int (v0_83 p0 p1 q2 p3 w0)), .val (.int (v0_97 p0 p1 q2 p3 w0)), .val (.int (v0_106 p0 p1 q2 p3 w0)), .val (.int (v0_115 p0 p1 q2 p3 w0)), .val (.int (v0_124 p0 p1 q2 p3 w0)), .val (.int (v0_133 p0 p1 q2 p3 w0)), .val (.int (v0_142 p0 p1 q2 p3 w0)), .val (.int (v0_156 p0 p1 q2 p3 w0)), .val (.int (v0_183 p0 p1 q2 p3 w0)), .unset, .unset, .unset] [(.int z), (.int (v0_124 p0 p1 q2 p3 w0))]) ((if_neg hc38).trans (if_pos hc39)) k)
      · skip
        refine XS.ifYes X32.here hx rfl (pc0 := 194) (pc' := 201) rfl (hb hby at_194) rfl ((if0 _ _).trans (feq (hc39)).2) (by decide) (by decide) ?_
        show Steps p.tables e below (T32.setTop (mkF m 201 (la0_14 p0 p1 q2 p3 w0 b0_0 b0_20) [(.int (v0_124 p0 p1 q2 p3 w0))])) t
        refine SGo.go (T' := T32) (g' := (mkF m 202 (la0_14 p0 p1 q2 p3 w0 b0_0 b0_20) [(.int (0 : Int32)), (.int (v0_124 p0 p1 q2 p3 w0))])) (fun t k => ?_) ?_
        · show Steps p.tables e below (T32.setTop (mkF m 201 (la0_14 p0 p1 q2 p3 w0 b0_0 b0_20) [(.int (v0_124 p0 p1 q2 p3 w0))])) t
          refine XS.iconst X32.here hx rfl (hb hby at_201) ?_
          show Steps p.tables e below (T32.setTop (mkF m 202 (la0_14 p0 p1 q2 p3 w0 b0_0 b0_20) [(.int (0 : Int32)), (.int (v0_124 p0 p1 q2 p3 w0))])) t
          exact k
        exact (own_k (f := fun (z : Int32) => mkF m 202 #[.val (.int p0), .val (.int p1), .val (.long q2), .second, .val (.int p3), .val (.ref b0_0), .val (.ref b0_20), .val (.int (v0_43 p0 p1 q2 p3 w0)), .val (.int (v0_56 p0 p1 q2 p3 w0)), .val (.int (v0_69 p0 p1 q2 p3 w0)), .val (.int (v0_83 p0 p1 q2 p3 w0)), .val (.int (v0_97 p0 p1 q2 p3 w0)), .val (.int (v0_106 p0 p1 q2 p3 w0)), .val (.int (v0_115 p0 p1 q2 p3 w0)), .val (.int (v0_124 p0 p1 q2 p3 w0)), .val (.int (v0_133 p0 p1 q2 p3 w0)), .val (.int (v0_142 p0 p1 q2 p3 w0)), .val (.int (v0_156 p0 p1 q2 p3 w0)), .val (.int (v0_183 p0 p1 q2 p3 w0)), .unset, .unset, .unset] [(.int z), (.int (v0_124 p0 p1 q2 p3 w0))]) ((if_neg hc38).trans (if_neg hc39)) k)
  refine OEnd.go (T' := T32) (g' := (mkF m 210 (la0_14 p0 p1 q2 p3 w0 b0_0 b0_20) [(.int (if (v0_124 p0 p1 q2 p3 w0) = (v0_202_s0 p0 p1 q2 p3 w0) then (1 : Int32) else (0 : Int32)))])) (fun t k => ?_) ?_
  · show Steps p.tables e below (T32.setTop (mkF m 202 (la0_14 p0 p1 q2 p3 w0 b0_0 b0_20) [(.int (v0_202_s0 p0 p1 q2 p3 w0)), (.int (v0_124 p0 p1 q2 p3 w0))])) t
    by_cases hc40 : (v0_124 p0 p1 q2 p3 w0) = (v0_202_s0 p0 p1 q2 p3 w0)
    · skip
      refine XS.icmpNo X32.here hx rfl (hb hby at_202) rfl (teq (hc40)).2 ?_
      show Steps p.tables e below (T32.setTop (mkF m 205 (la0_14 p0 p1 q2 p3 w0 b0_0 b0_20) [])) t
      refine SGo.go (T' := T32) (g' := (mkF m 210 (la0_14 p0 p1 q2 p3 w0 b0_0 b0_20) [(.int (1 : Int32))])) (fun t k => ?_) ?_
      · show Steps p.tables e below (T32.setTop (mkF m 205 (la0_14 p0 p1 q2 p3 w0 b0_0 b0_20) [])) t
        refine XS.iconst X32.here hx rfl (hb hby at_205) ?_
        show Steps p.tables e below (T32.setTop (mkF m 206 (la0_14 p0 p1 q2 p3 w0 b0_0 b0_20) [(.int (1 : Int32))])) t
        refine XS.goto X32.here hx rfl (pc0 := 206) (pc' := 210) rfl (hb hby at_206) (by decide) (by decide) ?_
        show Steps p.tables e below (T32.setTop (mkF m 210 (la0_14 p0 p1 q2 p3 w0 b0_0 b0_20) [(.int (1 : Int32))])) t
        exact k
      exact (own_k (f := fun (z : Int32) => mkF m 210 #[.val (.int p0), .val (.int p1), .val (.long q2), .second, .val (.int p3), .val (.ref b0_0), .val (.ref b0_20), .val (.int (v0_43 p0 p1 q2 p3 w0)), .val (.int (v0_56 p0 p1 q2 p3 w0)), .val (.int (v0_69 p0 p1 q2 p3 w0)), .val (.int (v0_83 p0 p1 q2 p3 w0)), .val (.int (v0_97 p0 p1 q2 p3 w0)), .val (.int (v0_106 p0 p1 q2 p3 w0)), .val (.int (v0_115 p0 p1 q2 p3 w0)), .val (.int (v0_124 p0 p1 q2 p3 w0)), .val (.int (v0_133 p0 p1 q2 p3 w0)), .val (.int (v0_142 p0 p1 q2 p3 w0)), .val (.int (v0_156 p0 p1 q2 p3 w0)), .val (.int (v0_183 p0 p1 q2 p3 w0)), .unset, .unset, .unset] [(.int z)]) (if_pos hc40) k)
    · skip
      refine XS.icmpYes X32.here hx rfl (pc0 := 202) (pc' := 209) rfl (hb hby at_202) rfl (feq (hc40)).2 (by decide) (by decide) ?_
      show Steps p.tables e below (T32.setTop (mkF m 209 (la0_14 p0 p1 q2 p3 w0 b0_0 b0_20) [])) t
      refine SGo.go (T' := T32) (g' := (mkF m 210 (la0_14 p0 p1 q2 p3 w0 b0_0 b0_20) [(.int (0 : Int32))])) (fun t k => ?_) ?_
      · show Steps p.tables e below (T32.setTop (mkF m 209 (la0_14 p0 p1 q2 p3 w0 b0_0 b0_20) [])) t
        refine XS.iconst X32.here hx rfl (hb hby at_209) ?_
        show Steps p.tables e below (T32.setTop (mkF m 210 (la0_14 p0 p1 q2 p3 w0 b0_0 b0_20) [(.int (0 : Int32))])) t
        exact k
      exact (own_k (f := fun (z : Int32) => mkF m 210 #[.val (.int p0), .val (.int p1), .val (.long q2), .second, .val (.int p3), .val (.ref b0_0), .val (.ref b0_20), .val (.int (v0_43 p0 p1 q2 p3 w0)), .val (.int (v0_56 p0 p1 q2 p3 w0)), .val (.int (v0_69 p0 p1 q2 p3 w0)), .val (.int (v0_83 p0 p1 q2 p3 w0)), .val (.int (v0_97 p0 p1 q2 p3 w0)), .val (.int (v0_106 p0 p1 q2 p3 w0)), .val (.int (v0_115 p0 p1 q2 p3 w0)), .val (.int (v0_124 p0 p1 q2 p3 w0)), .val (.int (v0_133 p0 p1 q2 p3 w0)), .val (.int (v0_142 p0 p1 q2 p3 w0)), .val (.int (v0_156 p0 p1 q2 p3 w0)), .val (.int (v0_183 p0 p1 q2 p3 w0)), .unset, .unset, .unset] [(.int z)]) (if_neg hc40) k)
  refine OEnd.go (T' := T32) (g' := (mkF m 216 (la0_15 p0 p1 q2 p3 w0 b0_0 b0_20) [(.int (v0_83 p0 p1 q2 p3 w0)), (.int (v0_133 p0 p1 q2 p3 w0))])) (fun t k => ?_) ?_
  · show Steps p.tables e below (T32.setTop (mkF m 210 (la0_14 p0 p1 q2 p3 w0 b0_0 b0_20) [(.int (if (v0_124 p0 p1 q2 p3 w0) = (v0_202_s0 p0 p1 q2 p3 w0) then (1 : Int32) else (0 : Int32)))])) t
    refine XS.istore X32.here hx rfl (hb hby at_210) rfl (l' := (la0_15 p0 p1 q2 p3 w0 b0_0 b0_20)) rfl ?_
    show Steps p.tables e below (T32.setTop (mkF m 212 (la0_15 p0 p1 q2 p3 w0 b0_0 b0_20) [])) t
    refine XS.iload X32.here hx rfl (hb hby at_212) rfl ?_
    show Steps p.tables e below (T32.setTop (mkF m 214 (la0_15 p0 p1 q2 p3 w0 b0_0 b0_20) [(.int (v0_133 p0 p1 q2 p3 w0))])) t
    refine XS.iload X32.here hx rfl (hb hby at_214) rfl ?_
    show Steps p.tables e below (T32.setTop (mkF m 216 (la0_15 p0 p1 q2 p3 w0 b0_0 b0_20) [(.int (v0_83 p0 p1 q2 p3 w0)), (.int (v0_133 p0 p1 q2 p3 w0))])) t
    exact k
  refine OEnd.go (T' := T32) (g' := (mkF m 229 (la0_15 p0 p1 q2 p3 w0 b0_0 b0_20) [(.int (if (v0_83 p0 p1 q2 p3 w0) = (0 : Int32) then (0 : Int32) else (if (v0_69 p0 p1 q2 p3 w0) = (0 : Int32) then (1 : Int32) else (0 : Int32)))), (.int (v0_133 p0 p1 q2 p3 w0))])) (fun t k => ?_) ?_
  · show Steps p.tables e below (T32.setTop (mkF m 216 (la0_15 p0 p1 q2 p3 w0 b0_0 b0_20) [(.int (v0_83 p0 p1 q2 p3 w0)), (.int (v0_133 p0 p1 q2 p3 w0))])) t
    by_cases hc41 : (v0_83 p0 p1 q2 p3 w0) = (0 : Int32)
    · skip
      refine XS.ifYes X32.here hx rfl (pc0 := 216) (pc' := 228) rfl (hb hby at_216) rfl ((if0 _ _).trans (teq (hc41)).1) (by decide) (by decide) ?_
      show Steps p.tables e below (T32.setTop (mkF m 228 (la0_15 p0 p1 q2 p3 w0 b0_0 b0_20) [(.int (v0_133 p0 p1 q2 p3 w0))])) t
      refine SGo.go (T' := T32) (g' := (mkF m 229 (la0_15 p0 p1 q2 p3 w0 b0_0 b0_20) [(.int (0 : Int32)), (.int (v0_133 p0 p1 q2 p3 w0))])) (fun t k => ?_) ?_
      · show Steps p.tables e below (T32.setTop (mkF m 228 (la0_15 p0 p1 q2 p3 w0 b0_0 b0_20) [(.int (v0_133 p0 p1 q2 p3 w0))])) t
        refine XS.iconst X32.here hx rfl (hb hby at_228) ?_
        show Steps p.tables e below (T32.setTop (mkF m 229 (la0_15 p0 p1 q2 p3 w0 b0_0 b0_20) [(.int (0 : Int32)), (.int (v0_133 p0 p1 q2 p3 w0))])) t
        exact k
      exact (own_k (f := fun (z : Int32) => mkF m 229 #[.val (.int p0), .val (.int p1), .val (.long q2), .second, .val (.int p3), .val (.ref b0_0), .val (.ref b0_20), .val (.int (v0_43 p0 p1 q2 p3 w0)), .val (.int (v0_56 p0 p1 q2 p3 w0)), .val (.int (v0_69 p0 p1 q2 p3 w0)), .val (.int (v0_83 p0 p1 q2 p3 w0)), .val (.int (v0_97 p0 p1 q2 p3 w0)), .val (.int (v0_106 p0 p1 q2 p3 w0)), .val (.int (v0_115 p0 p1 q2 p3 w0)), .val (.int (v0_124 p0 p1 q2 p3 w0)), .val (.int (v0_133 p0 p1 q2 p3 w0)), .val (.int (v0_142 p0 p1 q2 p3 w0)), .val (.int (v0_156 p0 p1 q2 p3 w0)), .val (.int (v0_183 p0 p1 q2 p3 w0)), .val (.int (v0_210 p0 p1 q2 p3 w0)), .unset, .unset] [(.int z), (.int (v0_133 p0 p1 q2 p3 w0))]) (if_pos hc41) k)
    · skip
      refine XS.ifNo X32.here hx rfl (hb hby at_216) rfl ((if0 _ _).trans (feq (hc41)).1) ?_
      show Steps p.tables e below (T32.setTop (mkF m 219 (la0_15 p0 p1 q2 p3 w0 b0_0 b0_20) [(.int (v0_133 p0 p1 q2 p3 w0))])) t
      refine SGo.go (T' := T32) (g' := (mkF m 221 (la0_15 p0 p1 q2 p3 w0 b0_0 b0_20) [(.int (v0_69 p0 p1 q2 p3 w0)), (.int (v0_133 p0 p1 q2 p3 w0))])) (fun t k => ?_) ?_
      · show Steps p.tables e below (T32.setTop (mkF m 219 (la0_15 p0 p1 q2 p3 w0 b0_0 b0_20) [(.int (v0_133 p0 p1 q2 p3 w0))])) t
        refine XS.iload X32.here hx rfl (hb hby at_219) rfl ?_
        show Steps p.tables e below (T32.setTop (mkF m 221 (la0_15 p0 p1 q2 p3 w0 b0_0 b0_20) [(.int (v0_69 p0 p1 q2 p3 w0)), (.int (v0_133 p0 p1 q2 p3 w0))])) t
        exact k
      by_cases hc42 : (v0_69 p0 p1 q2 p3 w0) = (0 : Int32)
      · skip
        refine XS.ifNo X32.here hx rfl (hb hby at_221) rfl ((if0 _ _).trans (teq (hc42)).2) ?_
        show Steps p.tables e below (T32.setTop (mkF m 224 (la0_15 p0 p1 q2 p3 w0 b0_0 b0_20) [(.int (v0_133 p0 p1 q2 p3 w0))])) t
        refine SGo.go (T' := T32) (g' := (mkF m 229 (la0_15 p0 p1 q2 p3 w0 b0_0 b0_20) [(.int (1 : Int32)), (.int (v0_133 p0 p1 q2 p3 w0))])) (fun t k => ?_) ?_
        · show Steps p.tables e below (T32.setTop (mkF m 224 (la0_15 p0 p1 q2 p3 w0 b0_0 b0_20) [(.int (v0_133 p0 p1 q2 p3 w0))])) t
          refine XS.iconst X32.here hx rfl (hb hby at_224) ?_
          show Steps p.tables e below (T32.setTop (mkF m 225 (la0_15 p0 p1 q2 p3 w0 b0_0 b0_20) [(.int (1 : Int32)), (.int (v0_133 p0 p1 q2 p3 w0))])) t
          refine XS.goto X32.here hx rfl (pc0 := 225) (pc' := 229) rfl (hb hby at_225) (by decide) (by decide) ?_
          show Steps p.tables e below (T32.setTop (mkF m 229 (la0_15 p0 p1 q2 p3 w0 b0_0 b0_20) [(.int (1 : Int32)), (.int (v0_133 p0 p1 q2 p3 w0))])) t
          exact k
        exact (own_k (f := fun (z : Int32) => mkF m 229 #[.val (.int p0), .val (.int p1), .val (.long q2), .second, .val (.int p3), .val (.ref b0_0), .val (.ref b0_20), .val (.int (v0_43 p0 p1 q2 p3 w0)), .val (.int (v0_56 p0 p1 q2 p3 w0)), .val (.int (v0_69 p0 p1 q2 p3 w0)), .val (.int (v0_83 p0 p1 q2 p3 w0)), .val (.int (v0_97 p0 p1 q2 p3 w0)), .val (.int (v0_106 p0 p1 q2 p3 w0)), .val (.int (v0_115 p0 p1 q2 p3 w0)), .val (.int (v0_124 p0 p1 q2 p3 w0)), .val (.int (v0_133 p0 p1 q2 p3 w0)), .val (.int (v0_142 p0 p1 q2 p3 w0)), .val (.int (v0_156 p0 p1 q2 p3 w0)), .val (.int (v0_183 p0 p1 q2 p3 w0)), .val (.int (v0_210 p0 p1 q2 p3 w0)), .unset, .unset] [(.int z), (.int (v0_133 p0 p1 q2 p3 w0))]) ((if_neg hc41).trans (if_pos hc42)) k)
      · skip
        refine XS.ifYes X32.here hx rfl (pc0 := 221) (pc' := 228) rfl (hb hby at_221) rfl ((if0 _ _).trans (feq (hc42)).2) (by decide) (by decide) ?_
        show Steps p.tables e below (T32.setTop (mkF m 228 (la0_15 p0 p1 q2 p3 w0 b0_0 b0_20) [(.int (v0_133 p0 p1 q2 p3 w0))])) t
        refine SGo.go (T' := T32) (g' := (mkF m 229 (la0_15 p0 p1 q2 p3 w0 b0_0 b0_20) [(.int (0 : Int32)), (.int (v0_133 p0 p1 q2 p3 w0))])) (fun t k => ?_) ?_
        · show Steps p.tables e below (T32.setTop (mkF m 228 (la0_15 p0 p1 q2 p3 w0 b0_0 b0_20) [(.int (v0_133 p0 p1 q2 p3 w0))])) t
          refine XS.iconst X32.here hx rfl (hb hby at_228) ?_
          show Steps p.tables e below (T32.setTop (mkF m 229 (la0_15 p0 p1 q2 p3 w0 b0_0 b0_20) [(.int (0 : Int32)), (.int (v0_133 p0 p1 q2 p3 w0))])) t
          exact k
        exact (own_k (f := fun (z : Int32) => mkF m 229 #[.val (.int p0), .val (.int p1), .val (.long q2), .second, .val (.int p3), .val (.ref b0_0), .val (.ref b0_20), .val (.int (v0_43 p0 p1 q2 p3 w0)), .val (.int (v0_56 p0 p1 q2 p3 w0)), .val (.int (v0_69 p0 p1 q2 p3 w0)), .val (.int (v0_83 p0 p1 q2 p3 w0)), .val (.int (v0_97 p0 p1 q2 p3 w0)), .val (.int (v0_106 p0 p1 q2 p3 w0)), .val (.int (v0_115 p0 p1 q2 p3 w0)), .val (.int (v0_124 p0 p1 q2 p3 w0)), .val (.int (v0_133 p0 p1 q2 p3 w0)), .val (.int (v0_142 p0 p1 q2 p3 w0)), .val (.int (v0_156 p0 p1 q2 p3 w0)), .val (.int (v0_183 p0 p1 q2 p3 w0)), .val (.int (v0_210 p0 p1 q2 p3 w0)), .unset, .unset] [(.int z), (.int (v0_133 p0 p1 q2 p3 w0))]) ((if_neg hc41).trans (if_neg hc42)) k)
  refine OEnd.go (T' := T32) (g' := (mkF m 237 (la0_15 p0 p1 q2 p3 w0 b0_0 b0_20) [(.int (if (v0_133 p0 p1 q2 p3 w0) = (v0_229_s0 p0 p1 q2 p3 w0) then (1 : Int32) else (0 : Int32)))])) (fun t k => ?_) ?_
  · show Steps p.tables e below (T32.setTop (mkF m 229 (la0_15 p0 p1 q2 p3 w0 b0_0 b0_20) [(.int (v0_229_s0 p0 p1 q2 p3 w0)), (.int (v0_133 p0 p1 q2 p3 w0))])) t
    by_cases hc43 : (v0_133 p0 p1 q2 p3 w0) = (v0_229_s0 p0 p1 q2 p3 w0)
    · skip
      refine XS.icmpNo X32.here hx rfl (hb hby at_229) rfl (teq (hc43)).2 ?_
      show Steps p.tables e below (T32.setTop (mkF m 232 (la0_15 p0 p1 q2 p3 w0 b0_0 b0_20) [])) t
      refine SGo.go (T' := T32) (g' := (mkF m 237 (la0_15 p0 p1 q2 p3 w0 b0_0 b0_20) [(.int (1 : Int32))])) (fun t k => ?_) ?_
      · show Steps p.tables e below (T32.setTop (mkF m 232 (la0_15 p0 p1 q2 p3 w0 b0_0 b0_20) [])) t
        refine XS.iconst X32.here hx rfl (hb hby at_232) ?_
        show Steps p.tables e below (T32.setTop (mkF m 233 (la0_15 p0 p1 q2 p3 w0 b0_0 b0_20) [(.int (1 : Int32))])) t
        refine XS.goto X32.here hx rfl (pc0 := 233) (pc' := 237) rfl (hb hby at_233) (by decide) (by decide) ?_
        show Steps p.tables e below (T32.setTop (mkF m 237 (la0_15 p0 p1 q2 p3 w0 b0_0 b0_20) [(.int (1 : Int32))])) t
        exact k
      exact (own_k (f := fun (z : Int32) => mkF m 237 #[.val (.int p0), .val (.int p1), .val (.long q2), .second, .val (.int p3), .val (.ref b0_0), .val (.ref b0_20), .val (.int (v0_43 p0 p1 q2 p3 w0)), .val (.int (v0_56 p0 p1 q2 p3 w0)), .val (.int (v0_69 p0 p1 q2 p3 w0)), .val (.int (v0_83 p0 p1 q2 p3 w0)), .val (.int (v0_97 p0 p1 q2 p3 w0)), .val (.int (v0_106 p0 p1 q2 p3 w0)), .val (.int (v0_115 p0 p1 q2 p3 w0)), .val (.int (v0_124 p0 p1 q2 p3 w0)), .val (.int (v0_133 p0 p1 q2 p3 w0)), .val (.int (v0_142 p0 p1 q2 p3 w0)), .val (.int (v0_156 p0 p1 q2 p3 w0)), .val (.int (v0_183 p0 p1 q2 p3 w0)), .val (.int (v0_210 p0 p1 q2 p3 w0)), .unset, .unset] [(.int z)]) (if_pos hc43) k)
    · skip
      refine XS.icmpYes X32.here hx rfl (pc0 := 229) (pc' := 236) rfl (hb hby at_229) rfl (feq (hc43)).2 (by decide) (by decide) ?_
      show Steps p.tables e below (T32.setTop (mkF m 236 (la0_15 p0 p1 q2 p3 w0 b0_0 b0_20) [])) t
      refine SGo.go (T' := T32) (g' := (mkF m 237 (la0_15 p0 p1 q2 p3 w0 b0_0 b0_20) [(.int (0 : Int32))])) (fun t k => ?_) ?_
      · show Steps p.tables e below (T32.setTop (mkF m 236 (la0_15 p0 p1 q2 p3 w0 b0_0 b0_20) [])) t
        refine XS.iconst X32.here hx rfl (hb hby at_236) ?_
        show Steps p.tables e below (T32.setTop (mkF m 237 (la0_15 p0 p1 q2 p3 w0 b0_0 b0_20) [(.int (0 : Int32))])) t
        exact k
      exact (own_k (f := fun (z : Int32) => mkF m 237 #[.val (.int p0), .val (.int p1), .val (.long q2), .second, .val (.int p3), .val (.ref b0_0), .val (.ref b0_20), .val (.int (v0_43 p0 p1 q2 p3 w0)), .val (.int (v0_56 p0 p1 q2 p3 w0)), .val (.int (v0_69 p0 p1 q2 p3 w0)), .val (.int (v0_83 p0 p1 q2 p3 w0)), .val (.int (v0_97 p0 p1 q2 p3 w0)), .val (.int (v0_106 p0 p1 q2 p3 w0)), .val (.int (v0_115 p0 p1 q2 p3 w0)), .val (.int (v0_124 p0 p1 q2 p3 w0)), .val (.int (v0_133 p0 p1 q2 p3 w0)), .val (.int (v0_142 p0 p1 q2 p3 w0)), .val (.int (v0_156 p0 p1 q2 p3 w0)), .val (.int (v0_183 p0 p1 q2 p3 w0)), .val (.int (v0_210 p0 p1 q2 p3 w0)), .unset, .unset] [(.int z)]) (if_neg hc43) k)
  refine OEnd.go (T' := T32) (g' := (mkF m 243 (la0_16 p0 p1 q2 p3 w0 b0_0 b0_20) [(.int (v0_97 p0 p1 q2 p3 w0)), (.int (v0_142 p0 p1 q2 p3 w0))])) (fun t k => ?_) ?_
  · show Steps p.tables e below (T32.setTop (mkF m 237 (la0_15 p0 p1 q2 p3 w0 b0_0 b0_20) [(.int (if (v0_133 p0 p1 q2 p3 w0) = (v0_229_s0 p0 p1 q2 p3 w0) then (1 : Int32) else (0 : Int32)))])) t
    refine XS.istore X32.here hx rfl (hb hby at_237) rfl (l' := (la0_16 p0 p1 q2 p3 w0 b0_0 b0_20)) rfl ?_
    show Steps p.tables e below (T32.setTop (mkF m 239 (la0_16 p0 p1 q2 p3 w0 b0_0 b0_20) [])) t
    refine XS.iload X32.here hx rfl (hb hby at_239) rfl ?_
    show Steps p.tables e below (T32.setTop (mkF m 241 (la0_16 p0 p1 q2 p3 w0 b0_0 b0_20) [(.int (v0_142 p0 p1 q2 p3 w0))])) t
    refine XS.iload X32.here hx rfl (hb hby at_241) rfl ?_
    show Steps p.tables e below (T32.setTop (mkF m 243 (la0_16 p0 p1 q2 p3 w0 b0_0 b0_20) [(.int (v0_97 p0 p1 q2 p3 w0)), (.int (v0_142 p0 p1 q2 p3 w0))])) t
    exact k
  refine OEnd.go (T' := T32) (g' := (mkF m 256 (la0_16 p0 p1 q2 p3 w0 b0_0 b0_20) [(.int (if (v0_97 p0 p1 q2 p3 w0) = (0 : Int32) then (0 : Int32) else (if (v0_83 p0 p1 q2 p3 w0) = (0 : Int32) then (1 : Int32) else (0 : Int32)))), (.int (v0_142 p0 p1 q2 p3 w0))])) (fun t k => ?_) ?_
  · show Steps p.tables e below (T32.setTop (mkF m 243 (la0_16 p0 p1 q2 p3 w0 b0_0 b0_20) [(.int (v0_97 p0 p1 q2 p3 w0)), (.int (v0_142 p0 p1 q2 p3 w0))])) t
    by_cases hc44 : (v0_97 p0 p1 q2 p3 w0) = (0 : Int32)
    · skip
      refine XS.ifYes X32.here hx rfl (pc0 := 243) (pc' := 255) rfl (hb hby at_243) rfl ((if0 _ _).trans (teq (hc44)).1) (by decide) (by decide) ?_
      show Steps p.tables e below (T32.setTop (mkF m 255 (la0_16 p0 p1 q2 p3 w0 b0_0 b0_20) [(.int (v0_142 p0 p1 q2 p3 w0))])) t
      refine SGo.go (T' := T32) (g' := (mkF m 256 (la0_16 p0 p1 q2 p3 w0 b0_0 b0_20) [(.int (0 : Int32)), (.int (v0_142 p0 p1 q2 p3 w0))])) (fun t k => ?_) ?_
      · show Steps p.tables e below (T32.setTop (mkF m 255 (la0_16 p0 p1 q2 p3 w0 b0_0 b0_20) [(.int (v0_142 p0 p1 q2 p3 w0))])) t
        refine XS.iconst X32.here hx rfl (hb hby at_255) ?_
        show Steps p.tables e below (T32.setTop (mkF m 256 (la0_16 p0 p1 q2 p3 w0 b0_0 b0_20) [(.int (0 : Int32)), (.int (v0_142 p0 p1 q2 p3 w0))])) t
        exact k
      exact (own_k (f := fun (z : Int32) => mkF m 256 #[.val (.int p0), .val (.int p1), .val (.long q2), .second, .val (.int p3), .val (.ref b0_0), .val (.ref b0_20), .val (.int (v0_43 p0 p1 q2 p3 w0)), .val (.int (v0_56 p0 p1 q2 p3 w0)), .val (.int (v0_69 p0 p1 q2 p3 w0)), .val (.int (v0_83 p0 p1 q2 p3 w0)), .val (.int (v0_97 p0 p1 q2 p3 w0)), .val (.int (v0_106 p0 p1 q2 p3 w0)), .val (.int (v0_115 p0 p1 q2 p3 w0)), .val (.int (v0_124 p0 p1 q2 p3 w0)), .val (.int (v0_133 p0 p1 q2 p3 w0)), .val (.int (v0_142 p0 p1 q2 p3 w0)), .val (.int (v0_156 p0 p1 q2 p3 w0)), .val (.int (v0_183 p0 p1 q2 p3 w0)), .val (.int (v0_210 p0 p1 q2 p3 w0)), .val (.int (v0_237 p0 p1 q2 p3 w0)), .unset] [(.int z), (.int (v0_142 p0 p1 q2 p3 w0))]) (if_pos hc44) k)
    · skip
      refine XS.ifNo X32.here hx rfl (hb hby at_243) rfl ((if0 _ _).trans (feq (hc44)).1) ?_
      show Steps p.tables e below (T32.setTop (mkF m 246 (la0_16 p0 p1 q2 p3 w0 b0_0 b0_20) [(.int (v0_142 p0 p1 q2 p3 w0))])) t
      refine SGo.go (T' := T32) (g' := (mkF m 248 (la0_16 p0 p1 q2 p3 w0 b0_0 b0_20) [(.int (v0_83 p0 p1 q2 p3 w0)), (.int (v0_142 p0 p1 q2 p3 w0))])) (fun t k => ?_) ?_
      · show Steps p.tables e below (T32.setTop (mkF m 246 (la0_16 p0 p1 q2 p3 w0 b0_0 b0_20) [(.int (v0_142 p0 p1 q2 p3 w0))])) t
        refine XS.iload X32.here hx rfl (hb hby at_246) rfl ?_
        show Steps p.tables e below (T32.setTop (mkF m 248 (la0_16 p0 p1 q2 p3 w0 b0_0 b0_20) [(.int (v0_83 p0 p1 q2 p3 w0)), (.int (v0_142 p0 p1 q2 p3 w0))])) t
        exact k
      by_cases hc45 : (v0_83 p0 p1 q2 p3 w0) = (0 : Int32)
      · skip
        refine XS.ifNo X32.here hx rfl (hb hby at_248) rfl ((if0 _ _).trans (teq (hc45)).2) ?_
        show Steps p.tables e below (T32.setTop (mkF m 251 (la0_16 p0 p1 q2 p3 w0 b0_0 b0_20) [(.int (v0_142 p0 p1 q2 p3 w0))])) t
        refine SGo.go (T' := T32) (g' := (mkF m 256 (la0_16 p0 p1 q2 p3 w0 b0_0 b0_20) [(.int (1 : Int32)), (.int (v0_142 p0 p1 q2 p3 w0))])) (fun t k => ?_) ?_
        · show Steps p.tables e below (T32.setTop (mkF m 251 (la0_16 p0 p1 q2 p3 w0 b0_0 b0_20) [(.int (v0_142 p0 p1 q2 p3 w0))])) t
          refine XS.iconst X32.here hx rfl (hb hby at_251) ?_
          show Steps p.tables e below (T32.setTop (mkF m 252 (la0_16 p0 p1 q2 p3 w0 b0_0 b0_20) [(.int (1 : Int32)), (.int (v0_142 p0 p1 q2 p3 w0))])) t
          refine XS.goto X32.here hx rfl (pc0 := 252) (pc' := 256) rfl (hb hby at_252) (by decide) (by decide) ?_
          show Steps p.tables e below (T32.setTop (mkF m 256 (la0_16 p0 p1 q2 p3 w0 b0_0 b0_20) [(.int (1 : Int32)), (.int (v0_142 p0 p1 q2 p3 w0))])) t
          exact k
        exact (own_k (f := fun (z : Int32) => mkF m 256 #[.val (.int p0), .val (.int p1), .val (.long q2), .second, .val (.int p3), .val (.ref b0_0), .val (.ref b0_20), .val (.int (v0_43 p0 p1 q2 p3 w0)), .val (.int (v0_56 p0 p1 q2 p3 w0)), .val (.int (v0_69 p0 p1 q2 p3 w0)), .val (.int (v0_83 p0 p1 q2 p3 w0)), .val (.int (v0_97 p0 p1 q2 p3 w0)), .val (.int (v0_106 p0 p1 q2 p3 w0)), .val (.int (v0_115 p0 p1 q2 p3 w0)), .val (.int (v0_124 p0 p1 q2 p3 w0)), .val (.int (v0_133 p0 p1 q2 p3 w0)), .val (.int (v0_142 p0 p1 q2 p3 w0)), .val (.int (v0_156 p0 p1 q2 p3 w0)), .val (.int (v0_183 p0 p1 q2 p3 w0)), .val (.int (v0_210 p0 p1 q2 p3 w0)), .val (.int (v0_237 p0 p1 q2 p3 w0)), .unset] [(.int z), (.int (v0_142 p0 p1 q2 p3 w0))]) ((if_neg hc44).trans (if_pos hc45)) k)
      · skip
        refine XS.ifYes X32.here hx rfl (pc0 := 248) (pc' := 255) rfl (hb hby at_248) rfl ((if0 _ _).trans (feq (hc45)).2) (by decide) (by decide) ?_
        show Steps p.tables e below (T32.setTop (mkF m 255 (la0_16 p0 p1 q2 p3 w0 b0_0 b0_20) [(.int (v0_142 p0 p1 q2 p3 w0))])) t
        refine SGo.go (T' := T32) (g' := (mkF m 256 (la0_16 p0 p1 q2 p3 w0 b0_0 b0_20) [(.int (0 : Int32)), (.int (v0_142 p0 p1 q2 p3 w0))])) (fun t k => ?_) ?_
        · show Steps p.tables e below (T32.setTop (mkF m 255 (la0_16 p0 p1 q2 p3 w0 b0_0 b0_20) [(.int (v0_142 p0 p1 q2 p3 w0))])) t
          refine XS.iconst X32.here hx rfl (hb hby at_255) ?_
          show Steps p.tables e below (T32.setTop (mkF m 256 (la0_16 p0 p1 q2 p3 w0 b0_0 b0_20) [(.int (0 : Int32)), (.int (v0_142 p0 p1 q2 p3 w0))])) t
          exact k
        exact (own_k (f := fun (z : Int32) => mkF m 256 #[.val (.int p0), .val (.int p1), .val (.long q2), .second, .val (.int p3), .val (.ref b0_0), .val (.ref b0_20), .val (.int (v0_43 p0 p1 q2 p3 w0)), .val (.int (v0_56 p0 p1 q2 p3 w0)), .val (.int (v0_69 p0 p1 q2 p3 w0)), .val (.int (v0_83 p0 p1 q2 p3 w0)), .val (.int (v0_97 p0 p1 q2 p3 w0)), .val (.int (v0_106 p0 p1 q2 p3 w0)), .val (.int (v0_115 p0 p1 q2 p3 w0)), .val (.int (v0_124 p0 p1 q2 p3 w0)), .val (.int (v0_133 p0 p1 q2 p3 w0)), .val (.int (v0_142 p0 p1 q2 p3 w0)), .val (.int (v0_156 p0 p1 q2 p3 w0)), .val (.int (v0_183 p0 p1 q2 p3 w0)), .val (.int (v0_210 p0 p1 q2 p3 w0)), .val (.int (v0_237 p0 p1 q2 p3 w0)), .unset] [(.int z), (.int (v0_142 p0 p1 q2 p3 w0))]) ((if_neg hc44).trans (if_neg hc45)) k)
  refine OEnd.go (T' := T32) (g' := (mkF m 264 (la0_16 p0 p1 q2 p3 w0 b0_0 b0_20) [(.int (if (v0_142 p0 p1 q2 p3 w0) = (v0_256_s0 p0 p1 q2 p3 w0) then (1 : Int32) else (0 : Int32)))])) (fun t k => ?_) ?_
  · show Steps p.tables e below (T32.setTop (mkF m 256 (la0_16 p0 p1 q2 p3 w0 b0_0 b0_20) [(.int (v0_256_s0 p0 p1 q2 p3 w0)), (.int (v0_142 p0 p1 q2 p3 w0))])) t
    by_cases hc46 : (v0_142 p0 p1 q2 p3 w0) = (v0_256_s0 p0 p1 q2 p3 w0)
    · skip
      refine XS.icmpNo X32.here hx rfl (hb hby at_256) rfl (teq (hc46)).2 ?_
      show Steps p.tables e below (T32.setTop (mkF m 259 (la0_16 p0 p1 q2 p3 w0 b0_0 b0_20) [])) t
      refine SGo.go (T' := T32) (g' := (mkF m 264 (la0_16 p0 p1 q2 p3 w0 b0_0 b0_20) [(.int (1 : Int32))])) (fun t k => ?_) ?_
      · show Steps p.tables e below (T32.setTop (mkF m 259 (la0_16 p0 p1 q2 p3 w0 b0_0 b0_20) [])) t
        refine XS.iconst X32.here hx rfl (hb hby at_259) ?_
        show Steps p.tables e below (T32.setTop (mkF m 260 (la0_16 p0 p1 q2 p3 w0 b0_0 b0_20) [(.int (1 : Int32))])) t
        refine XS.goto X32.here hx rfl (pc0 := 260) (pc' := 264) rfl (hb hby at_260) (by decide) (by decide) ?_
        show Steps p.tables e below (T32.setTop (mkF m 264 (la0_16 p0 p1 q2 p3 w0 b0_0 b0_20) [(.int (1 : Int32))])) t
        exact k
      exact (own_k (f := fun (z : Int32) => mkF m 264 #[.val (.int p0), .val (.int p1), .val (.long q2), .second, .val (.int p3), .val (.ref b0_0), .val (.ref b0_20), .val (.int (v0_43 p0 p1 q2 p3 w0)), .val (.int (v0_56 p0 p1 q2 p3 w0)), .val (.int (v0_69 p0 p1 q2 p3 w0)), .val (.int (v0_83 p0 p1 q2 p3 w0)), .val (.int (v0_97 p0 p1 q2 p3 w0)), .val (.int (v0_106 p0 p1 q2 p3 w0)), .val (.int (v0_115 p0 p1 q2 p3 w0)), .val (.int (v0_124 p0 p1 q2 p3 w0)), .val (.int (v0_133 p0 p1 q2 p3 w0)), .val (.int (v0_142 p0 p1 q2 p3 w0)), .val (.int (v0_156 p0 p1 q2 p3 w0)), .val (.int (v0_183 p0 p1 q2 p3 w0)), .val (.int (v0_210 p0 p1 q2 p3 w0)), .val (.int (v0_237 p0 p1 q2 p3 w0)), .unset] [(.int z)]) (if_pos hc46) k)
    · skip
      refine XS.icmpYes X32.here hx rfl (pc0 := 256) (pc' := 263) rfl (hb hby at_256) rfl (feq (hc46)).2 (by decide) (by decide) ?_
      show Steps p.tables e below (T32.setTop (mkF m 263 (la0_16 p0 p1 q2 p3 w0 b0_0 b0_20) [])) t
      refine SGo.go (T' := T32) (g' := (mkF m 264 (la0_16 p0 p1 q2 p3 w0 b0_0 b0_20) [(.int (0 : Int32))])) (fun t k => ?_) ?_
      · show Steps p.tables e below (T32.setTop (mkF m 263 (la0_16 p0 p1 q2 p3 w0 b0_0 b0_20) [])) t
        refine XS.iconst X32.here hx rfl (hb hby at_263) ?_
        show Steps p.tables e below (T32.setTop (mkF m 264 (la0_16 p0 p1 q2 p3 w0 b0_0 b0_20) [(.int (0 : Int32))])) t
        exact k
      exact (own_k (f := fun (z : Int32) => mkF m 264 #[.val (.int p0), .val (.int p1), .val (.long q2), .second, .val (.int p3), .val (.ref b0_0), .val (.ref b0_20), .val (.int (v0_43 p0 p1 q2 p3 w0)), .val (.int (v0_56 p0 p1 q2 p3 w0)), .val (.int (v0_69 p0 p1 q2 p3 w0)), .val (.int (v0_83 p0 p1 q2 p3 w0)), .val (.int (v0_97 p0 p1 q2 p3 w0)), .val (.int (v0_106 p0 p1 q2 p3 w0)), .val (.int (v0_115 p0 p1 q2 p3 w0)), .val (.int (v0_124 p0 p1 q2 p3 w0)), .val (.int (v0_133 p0 p1 q2 p3 w0)), .val (.int (v0_142 p0 p1 q2 p3 w0)), .val (.int (v0_156 p0 p1 q2 p3 w0)), .val (.int (v0_183 p0 p1 q2 p3 w0)), .val (.int (v0_210 p0 p1 q2 p3 w0)), .val (.int (v0_237 p0 p1 q2 p3 w0)), .unset] [(.int z)]) (if_neg hc46) k)
  refine OEnd.go (T' := T32) (g' := (mkF m 268 (la0_17 p0 p1 q2 p3 w0 b0_0 b0_20) [(.int (v0_156 p0 p1 q2 p3 w0))])) (fun t k => ?_) ?_
  · show Steps p.tables e below (T32.setTop (mkF m 264 (la0_16 p0 p1 q2 p3 w0 b0_0 b0_20) [(.int (if (v0_142 p0 p1 q2 p3 w0) = (v0_256_s0 p0 p1 q2 p3 w0) then (1 : Int32) else (0 : Int32)))])) t
    refine XS.istore X32.here hx rfl (hb hby at_264) rfl (l' := (la0_17 p0 p1 q2 p3 w0 b0_0 b0_20)) rfl ?_
    show Steps p.tables e below (T32.setTop (mkF m 266 (la0_17 p0 p1 q2 p3 w0 b0_0 b0_20) [])) t
    refine XS.iload X32.here hx rfl (hb hby at_266) rfl ?_
    show Steps p.tables e below (T32.setTop (mkF m 268 (la0_17 p0 p1 q2 p3 w0 b0_0 b0_20) [(.int (v0_156 p0 p1 q2 p3 w0))])) t
    exact k
  refine OEnd.go (T' := T32) (g' := (mkF m 296 (la0_17 p0 p1 q2 p3 w0 b0_0 b0_20) [(.int (if (v0_156 p0 p1 q2 p3 w0) = (0 : Int32) then (0 : Int32) else (if (v0_183 p0 p1 q2 p3 w0) = (0 : Int32) then (0 : Int32) else (if (v0_210 p0 p1 q2 p3 w0) = (0 : Int32) then (0 : Int32) else (if (v0_237 p0 p1 q2 p3 w0) = (0 : Int32) then (0 : Int32) else (if (v0_264 p0 p1 q2 p3 w0) = (0 : Int32) then (0 : Int32) else (1 : Int32)))))))])) (fun t k => ?_) ?_
  · show Steps p.tables e below (T32.setTop (mkF m 268 (la0_17 p0 p1 q2 p3 w0 b0_0 b0_20) [(.int (v0_156 p0 p1 q2 p3 w0))])) t
    by_cases hc47 : (v0_156 p0 p1 q2 p3 w0) = (0 : Int32)
    · skip
      refine XS.ifYes X32.here hx rfl (pc0 := 268) (pc' := 295) rfl (hb hby at_268) rfl ((if0 _ _).trans (teq (hc47)).1) (by decide) (by decide) ?_
      show Steps p.tables e below (T32.setTop (mkF m 295 (la0_17 p0 p1 q2 p3 w0 b0_0 b0_20) [])) t
      refine SGo.go (T' := T32) (g' := (mkF m 296 (la0_17 p0 p1 q2 p3 w0 b0_0 b0_20) [(.int (0 : Int32))])) (fun t k => ?_) ?_
      · show Steps p.tables e below (T32.setTop (mkF m 295 (la0_17 p0 p1 q2 p3 w0 b0_0 b0_20) [])) t
        refine XS.iconst X32.here hx rfl (hb hby at_295) ?_
        show Steps p.tables e below (T32.setTop (mkF m 296 (la0_17 p0 p1 q2 p3 w0 b0_0 b0_20) [(.int (0 : Int32))])) t
        exact k
      exact (own_k (f := fun (z : Int32) => mkF m 296 #[.val (.int p0), .val (.int p1), .val (.long q2), .second, .val (.int p3), .val (.ref b0_0), .val (.ref b0_20), .val (.int (v0_43 p0 p1 q2 p3 w0)), .val (.int (v0_56 p0 p1 q2 p3 w0)), .val (.int (v0_69 p0 p1 q2 p3 w0)), .val (.int (v0_83 p0 p1 q2 p3 w0)), .val (.int (v0_97 p0 p1 q2 p3 w0)), .val (.int (v0_106 p0 p1 q2 p3 w0)), .val (.int (v0_115 p0 p1 q2 p3 w0)), .val (.int (v0_124 p0 p1 q2 p3 w0)), .val (.int (v0_133 p0 p1 q2 p3 w0)), .val (.int (v0_142 p0 p1 q2 p3 w0)), .val (.int (v0_156 p0 p1 q2 p3 w0)), .val (.int (v0_183 p0 p1 q2 p3 w0)), .val (.int (v0_210 p0 p1 q2 p3 w0)), .val (.int (v0_237 p0 p1 q2 p3 w0)), .val (.int (v0_264 p0 p1 q2 p3 w0))] [(.int z)]) (if_pos hc47) k)
    · skip
      refine XS.ifNo X32.here hx rfl (hb hby at_268) rfl ((if0 _ _).trans (feq (hc47)).1) ?_
      show Steps p.tables e below (T32.setTop (mkF m 271 (la0_17 p0 p1 q2 p3 w0 b0_0 b0_20) [])) t
      refine SGo.go (T' := T32) (g' := (mkF m 273 (la0_17 p0 p1 q2 p3 w0 b0_0 b0_20) [(.int (v0_183 p0 p1 q2 p3 w0))])) (fun t k => ?_) ?_
      · show Steps p.tables e below (T32.setTop (mkF m 271 (la0_17 p0 p1 q2 p3 w0 b0_0 b0_20) [])) t
        refine XS.iload X32.here hx rfl (hb hby at_271) rfl ?_
        show Steps p.tables e below (T32.setTop (mkF m 273 (la0_17 p0 p1 q2 p3 w0 b0_0 b0_20) [(.int (v0_183 p0 p1 q2 p3 w0))])) t
        exact k
      by_cases hc48 : (v0_183 p0 p1 q2 p3 w0) = (0 : Int32)
      · skip
        refine XS.ifYes X32.here hx rfl (pc0 := 273) (pc' := 295) rfl (hb hby at_273) rfl ((if0 _ _).trans (teq (hc48)).1) (by decide) (by decide) ?_
        show Steps p.tables e below (T32.setTop (mkF m 295 (la0_17 p0 p1 q2 p3 w0 b0_0 b0_20) [])) t
        refine SGo.go (T' := T32) (g' := (mkF m 296 (la0_17 p0 p1 q2 p3 w0 b0_0 b0_20) [(.int (0 : Int32))])) (fun t k => ?_) ?_
        · show Steps p.tables e below (T32.setTop (mkF m 295 (la0_17 p0 p1 q2 p3 w0 b0_0 b0_20) [])) t
          refine XS.iconst X32.here hx rfl (hb hby at_295) ?_
          show Steps p.tables e below (T32.setTop (mkF m 296 (la0_17 p0 p1 q2 p3 w0 b0_0 b0_20) [(.int (0 : Int32))])) t
          exact k
        exact (own_k (f := fun (z : Int32) => mkF m 296 #[.val (.int p0), .val (.int p1), .val (.long q2), .second, .val (.int p3), .val (.ref b0_0), .val (.ref b0_20), .val (.int (v0_43 p0 p1 q2 p3 w0)), .val (.int (v0_56 p0 p1 q2 p3 w0)), .val (.int (v0_69 p0 p1 q2 p3 w0)), .val (.int (v0_83 p0 p1 q2 p3 w0)), .val (.int (v0_97 p0 p1 q2 p3 w0)), .val (.int (v0_106 p0 p1 q2 p3 w0)), .val (.int (v0_115 p0 p1 q2 p3 w0)), .val (.int (v0_124 p0 p1 q2 p3 w0)), .val (.int (v0_133 p0 p1 q2 p3 w0)), .val (.int (v0_142 p0 p1 q2 p3 w0)), .val (.int (v0_156 p0 p1 q2 p3 w0)), .val (.int (v0_183 p0 p1 q2 p3 w0)), .val (.int (v0_210 p0 p1 q2 p3 w0)), .val (.int (v0_237 p0 p1 q2 p3 w0)), .val (.int (v0_264 p0 p1 q2 p3 w0))] [(.int z)]) ((if_neg hc47).trans (if_pos hc48)) k)
      · skip
        refine XS.ifNo X32.here hx rfl (hb hby at_273) rfl ((if0 _ _).trans (feq (hc48)).1) ?_
        show Steps p.tables e below (T32.setTop (mkF m 276 (la0_17 p0 p1 q2 p3 w0 b0_0 b0_20) [])) t
        refine SGo.go (T' := T32) (g' := (mkF m 278 (la0_17 p0 p1 q2 p3 w0 b0_0 b0_20) [(.int (v0_210 p0 p1 q2 p3 w0))])) (fun t k => ?_) ?_
        · show Steps p.tables e below (T32.setTop (mkF m 276 (la0_17 p0 p1 q2 p3 w0 b0_0 b0_20) [])) t
          refine XS.iload X32.here hx rfl (hb hby at_276) rfl ?_
          show Steps p.tables e below (T32.setTop (mkF m 278 (la0_17 p0 p1 q2 p3 w0 b0_0 b0_20) [(.int (v0_210 p0 p1 q2 p3 w0))])) t
          exact k
        by_cases hc49 : (v0_210 p0 p1 q2 p3 w0) = (0 : Int32)
        · skip
          refine XS.ifYes X32.here hx rfl (pc0 := 278) (pc' := 295) rfl (hb hby at_278) rfl ((if0 _ _).trans (teq (hc49)).1) (by decide) (by decide) ?_
          show Steps p.tables e below (T32.setTop (mkF m 295 (la0_17 p0 p1 q2 p3 w0 b0_0 b0_20) [])) t
          refine SGo.go (T' := T32) (g' := (mkF m 296 (la0_17 p0 p1 q2 p3 w0 b0_0 b0_20) [(.int (0 : Int32))])) (fun t k => ?_) ?_
          · show Steps p.tables e below (T32.setTop (mkF m 295 (la0_17 p0 p1 q2 p3 w0 b0_0 b0_20) [])) t
            refine XS.iconst X32.here hx rfl (hb hby at_295) ?_
            show Steps p.tables e below (T32.setTop (mkF m 296 (la0_17 p0 p1 q2 p3 w0 b0_0 b0_20) [(.int (0 : Int32))])) t
            exact k
          exact (own_k (f := fun (z : Int32) => mkF m 296 #[.val (.int p0), .val (.int p1), .val (.long q2), .second, .val (.int p3), .val (.ref b0_0), .val (.ref b0_20), .val (.int (v0_43 p0 p1 q2 p3 w0)), .val (.int (v0_56 p0 p1 q2 p3 w0)), .val (.int (v0_69 p0 p1 q2 p3 w0)), .val (.int (v0_83 p0 p1 q2 p3 w0)), .val (.int (v0_97 p0 p1 q2 p3 w0)), .val (.int (v0_106 p0 p1 q2 p3 w0)), .val (.int (v0_115 p0 p1 q2 p3 w0)), .val (.int (v0_124 p0 p1 q2 p3 w0)), .val (.int (v0_133 p0 p1 q2 p3 w0)), .val (.int (v0_142 p0 p1 q2 p3 w0)), .val (.int (v0_156 p0 p1 q2 p3 w0)), .val (.int (v0_183 p0 p1 q2 p3 w0)), .val (.int (v0_210 p0 p1 q2 p3 w0)), .val (.int (v0_237 p0 p1 q2 p3 w0)), .val (.int (v0_264 p0 p1 q2 p3 w0))] [(.int z)]) ((if_neg hc47).trans ((if_neg hc48).trans (if_pos hc49))) k)
        · skip
          refine XS.ifNo X32.here hx rfl (hb hby at_278) rfl ((if0 _ _).trans (feq (hc49)).1) ?_
          show Steps p.tables e below (T32.setTop (mkF m 281 (la0_17 p0 p1 q2 p3 w0 b0_0 b0_20) [])) t
          refine SGo.go (T' := T32) (g' := (mkF m 283 (la0_17 p0 p1 q2 p3 w0 b0_0 b0_20) [(.int (v0_237 p0 p1 q2 p3 w0))])) (fun t k => ?_) ?_
          · show Steps p.tables e below (T32.setTop (mkF m 281 (la0_17 p0 p1 q2 p3 w0 b0_0 b0_20) [])) t
            refine XS.iload X32.here hx rfl (hb hby at_281) rfl ?_
            show Steps p.tables e below (T32.setTop (mkF m 283 (la0_17 p0 p1 q2 p3 w0 b0_0 b0_20) [(.int (v0_237 p0 p1 q2 p3 w0))])) t
            exact k
          by_cases hc50 : (v0_237 p0 p1 q2 p3 w0) = (0 : Int32)
          · skip
            refine XS.ifYes X32.here hx rfl (pc0 := 283) (pc' := 295) rfl (hb hby at_283) rfl ((if0 _ _).trans (teq (hc50)).1) (by decide) (by decide) ?_
            show Steps p.tables e below (T32.setTop (mkF m 295 (la0_17 p0 p1 q2 p3 w0 b0_0 b0_20) [])) t
            refine SGo.go (T' := T32) (g' := (mkF m 296 (la0_17 p0 p1 q2 p3 w0 b0_0 b0_20) [(.int (0 : Int32))])) (fun t k => ?_) ?_
            · show Steps p.tables e below (T32.setTop (mkF m 295 (la0_17 p0 p1 q2 p3 w0 b0_0 b0_20) [])) t
              refine XS.iconst X32.here hx rfl (hb hby at_295) ?_
              show Steps p.tables e below (T32.setTop (mkF m 296 (la0_17 p0 p1 q2 p3 w0 b0_0 b0_20) [(.int (0 : Int32))])) t
              exact k
            exact (own_k (f := fun (z : Int32) => mkF m 296 #[.val (.int p0), .val (.int p1), .val (.long q2), .second, .val (.int p3), .val (.ref b0_0), .val (.ref b0_20), .val (.int (v0_43 p0 p1 q2 p3 w0)), .val (.int (v0_56 p0 p1 q2 p3 w0)), .val (.int (v0_69 p0 p1 q2 p3 w0)), .val (.int (v0_83 p0 p1 q2 p3 w0)), .val (.int (v0_97 p0 p1 q2 p3 w0)), .val (.int (v0_106 p0 p1 q2 p3 w0)), .val (.int (v0_115 p0 p1 q2 p3 w0)), .val (.int (v0_124 p0 p1 q2 p3 w0)), .val (.int (v0_133 p0 p1 q2 p3 w0)), .val (.int (v0_142 p0 p1 q2 p3 w0)), .val (.int (v0_156 p0 p1 q2 p3 w0)), .val (.int (v0_183 p0 p1 q2 p3 w0)), .val (.int (v0_210 p0 p1 q2 p3 w0)), .val (.int (v0_237 p0 p1 q2 p3 w0)), .val (.int (v0_264 p0 p1 q2 p3 w0))] [(.int z)]) ((if_neg hc47).trans ((if_neg hc48).trans ((if_neg hc49).trans (if_pos hc50)))) k)
          · skip
            refine XS.ifNo X32.here hx rfl (hb hby at_283) rfl ((if0 _ _).trans (feq (hc50)).1) ?_
            show Steps p.tables e below (T32.setTop (mkF m 286 (la0_17 p0 p1 q2 p3 w0 b0_0 b0_20) [])) t
            refine SGo.go (T' := T32) (g' := (mkF m 288 (la0_17 p0 p1 q2 p3 w0 b0_0 b0_20) [(.int (v0_264 p0 p1 q2 p3 w0))])) (fun t k => ?_) ?_
            · show Steps p.tables e below (T32.setTop (mkF m 286 (la0_17 p0 p1 q2 p3 w0 b0_0 b0_20) [])) t
              refine XS.iload X32.here hx rfl (hb hby at_286) rfl ?_
              show Steps p.tables e below (T32.setTop (mkF m 288 (la0_17 p0 p1 q2 p3 w0 b0_0 b0_20) [(.int (v0_264 p0 p1 q2 p3 w0))])) t
              exact k
            by_cases hc51 : (v0_264 p0 p1 q2 p3 w0) = (0 : Int32)
            · skip
              refine XS.ifYes X32.here hx rfl (pc0 := 288) (pc' := 295) rfl (hb hby at_288) rfl ((if0 _ _).trans (teq (hc51)).1) (by decide) (by decide) ?_
              show Steps p.tables e below (T32.setTop (mkF m 295 (la0_17 p0 p1 q2 p3 w0 b0_0 b0_20) [])) t
              refine SGo.go (T' := T32) (g' := (mkF m 296 (la0_17 p0 p1 q2 p3 w0 b0_0 b0_20) [(.int (0 : Int32))])) (fun t k => ?_) ?_
              · show Steps p.tables e below (T32.setTop (mkF m 295 (la0_17 p0 p1 q2 p3 w0 b0_0 b0_20) [])) t
                refine XS.iconst X32.here hx rfl (hb hby at_295) ?_
                show Steps p.tables e below (T32.setTop (mkF m 296 (la0_17 p0 p1 q2 p3 w0 b0_0 b0_20) [(.int (0 : Int32))])) t
                exact k
              exact (own_k (f := fun (z : Int32) => mkF m 296 #[.val (.int p0), .val (.int p1), .val (.long q2), .second, .val (.int p3), .val (.ref b0_0), .val (.ref b0_20), .val (.int (v0_43 p0 p1 q2 p3 w0)), .val (.int (v0_56 p0 p1 q2 p3 w0)), .val (.int (v0_69 p0 p1 q2 p3 w0)), .val (.int (v0_83 p0 p1 q2 p3 w0)), .val (.int (v0_97 p0 p1 q2 p3 w0)), .val (.int (v0_106 p0 p1 q2 p3 w0)), .val (.int (v0_115 p0 p1 q2 p3 w0)), .val (.int (v0_124 p0 p1 q2 p3 w0)), .val (.int (v0_133 p0 p1 q2 p3 w0)), .val (.int (v0_142 p0 p1 q2 p3 w0)), .val (.int (v0_156 p0 p1 q2 p3 w0)), .val (.int (v0_183 p0 p1 q2 p3 w0)), .val (.int (v0_210 p0 p1 q2 p3 w0)), .val (.int (v0_237 p0 p1 q2 p3 w0)), .val (.int (v0_264 p0 p1 q2 p3 w0))] [(.int z)]) ((if_neg hc47).trans ((if_neg hc48).trans ((if_neg hc49).trans ((if_neg hc50).trans (if_pos hc51))))) k)
            · skip
              refine XS.ifNo X32.here hx rfl (hb hby at_288) rfl ((if0 _ _).trans (feq (hc51)).1) ?_
              show Steps p.tables e below (T32.setTop (mkF m 291 (la0_17 p0 p1 q2 p3 w0 b0_0 b0_20) [])) t
              refine SGo.go (T' := T32) (g' := (mkF m 296 (la0_17 p0 p1 q2 p3 w0 b0_0 b0_20) [(.int (1 : Int32))])) (fun t k => ?_) ?_
              · show Steps p.tables e below (T32.setTop (mkF m 291 (la0_17 p0 p1 q2 p3 w0 b0_0 b0_20) [])) t
                refine XS.iconst X32.here hx rfl (hb hby at_291) ?_
                show Steps p.tables e below (T32.setTop (mkF m 292 (la0_17 p0 p1 q2 p3 w0 b0_0 b0_20) [(.int (1 : Int32))])) t
                refine XS.goto X32.here hx rfl (pc0 := 292) (pc' := 296) rfl (hb hby at_292) (by decide) (by decide) ?_
                show Steps p.tables e below (T32.setTop (mkF m 296 (la0_17 p0 p1 q2 p3 w0 b0_0 b0_20) [(.int (1 : Int32))])) t
                exact k
              exact (own_k (f := fun (z : Int32) => mkF m 296 #[.val (.int p0), .val (.int p1), .val (.long q2), .second, .val (.int p3), .val (.ref b0_0), .val (.ref b0_20), .val (.int (v0_43 p0 p1 q2 p3 w0)), .val (.int (v0_56 p0 p1 q2 p3 w0)), .val (.int (v0_69 p0 p1 q2 p3 w0)), .val (.int (v0_83 p0 p1 q2 p3 w0)), .val (.int (v0_97 p0 p1 q2 p3 w0)), .val (.int (v0_106 p0 p1 q2 p3 w0)), .val (.int (v0_115 p0 p1 q2 p3 w0)), .val (.int (v0_124 p0 p1 q2 p3 w0)), .val (.int (v0_133 p0 p1 q2 p3 w0)), .val (.int (v0_142 p0 p1 q2 p3 w0)), .val (.int (v0_156 p0 p1 q2 p3 w0)), .val (.int (v0_183 p0 p1 q2 p3 w0)), .val (.int (v0_210 p0 p1 q2 p3 w0)), .val (.int (v0_237 p0 p1 q2 p3 w0)), .val (.int (v0_264 p0 p1 q2 p3 w0))] [(.int z)]) ((if_neg hc47).trans ((if_neg hc48).trans ((if_neg hc49).trans ((if_neg hc50).trans (if_neg hc51))))) k)
  exact OEnd.nar X32 hx (t := .boolean) Bd.returns (by simp) hlk (hb hby at_296) ⟨(congrArg (fun z => some (Value.int (nar .boolean z))) (own_plain p0 p1 q2 p3 w0)), N32⟩ (by decide) (by decide)
set_option maxRecDepth 65536 in
set_option maxHeartbeats 40000000 in
theorem comes_1 {Post : Tables → Env → Array Value → State → Outcome → State → Prop} (hpost : ∀ tb e args s v u, (limb_1_1.after args s (.returned v) u = true ∧ limb_1_2.after args s (.returned v) u = true ∧ True) → FrameEnd s (.returned v) u (Jvm.fieldLocs frame_1_writes args s ++ Jvm.arrayLocs frame_1_arrays args s ++ Jvm.staticLocs frame_1_statics s) 24 128 → Post tb e args s (.returned v) u) :
    ArmFor flags0 classFile x code maxLocals ret World_1 tables_1 room_1 Calls_1 rest_1 Pre_1 Post := by
  intro l hfl _ _ p e ha hc hk s m args below hf hA hF happ hP
  obtain ⟨hcalls, hrest, hpre⟩ := hP
  obtain ⟨-, -, -, hnamed, -, -, -, hat⟩ := (Spec.applies_iff hf).mp happ
  obtain ⟨hg, hn⟩ := and_e (Cond.before_iff.mp (show (Jvm.Cond.and given_1 narrow_1).before args s = true from hpre))
  obtain ⟨c1, c2⟩ := and_e hg
  obtain ⟨c3, c4⟩ := and_e c2
  obtain ⟨c5, c6⟩ := and_e c4
  obtain ⟨c7, c8⟩ := and_e c6
  obtain ⟨w0, w1, w2, w3, rfl⟩ : ∃ w0 w1 w2 w3 : Value, args = #[w0, w1, w2, w3] := by
    have hs : args.size = 4 := by simpa [Cond.value, given_1] using c1
    obtain ⟨L⟩ := args
    match L, hs with
    | [w0, w1, w2, w3], _ => exact ⟨w0, w1, w2, w3, rfl⟩
  have hw := fun d (hd : d ∈ tables_1) => atoms_spec (ws := Jvm.Cond.code x code maxLocals ret :: tables_1) hat d (List.mem_cons_of_mem _ hd)
  obtain ⟨hsets, hown0⟩ := atoms_of _ (rest_1_c_eq ▸ (show rest_1_c.before _ s = true from hrest))
  have hr0 := Cond.before_iff.mp hown0
  obtain ⟨i0, ei0⟩ := is_v c3
  obtain rfl : w0 = (.int i0) := Option.some.inj ei0
  obtain ⟨i1, ei1⟩ := is_v c5
  obtain rfl : w1 = (.int i1) := Option.some.inj ei1
  obtain ⟨i2, ei2⟩ := isL_v c7
  obtain rfl : w2 = (.long i2) := Option.some.inj ei2
  obtain ⟨i3, ei3⟩ := is_v c8
  obtain rfl : w3 = (.int i3) := Option.some.inj ei3
  have n5 := not_v (Cond.before_iff.mp (hsets _ (List.mem_of_getElem? (i := 2) rfl)))
  obtain ⟨i11, e10⟩ := is_v (Cond.before_iff.mp (hsets _ (List.mem_of_getElem? (i := 1) rfl)))
  have S12 : Sta s s.heap "java/lang/String" "COMPACT_STRINGS" "Z" (.int i11) := Sta.start e10 (Or.inl (hsets _ (List.mem_of_getElem? (i := 0) rfl)))
  have c17 : ¬ (i11 = (0 : Int32)) := gotF (Cond.eq_ints e10 (Term.int_eval (0))) n5
  obtain ⟨n, o, h1, h2, h3, _, L, rfl, ⟨rfl, N⟩, hq⟩ := rm0 l s _ hw tables_1 i0 i1 i2 i3 i11 s.heap s.heap.size (Nat.le_refl _) S12 c17 p e ha hc hk s m _ below hf ((Spec.applies_iff_loose hf).mp happ).1 ⟨rfl, State.Warmed39.refl s, rfl⟩ trivial
  refine ⟨n, _, h1, h2, h3, hpost _ _ _ _ _ _ ⟨Cond.after_iff.mpr rfl, Cond.after_iff.mpr (eq_i res_at (Term.int_eval (1)) rfl), trivial⟩ ⟨hq.1, hq.2.1, (hq.2.2.sift fun y hy => Or.inr (N y hy)).mono (by decide) (by decide)⟩⟩
theorem main_1_1 : Claimed_1_1 := comes_1 fun _ _ _ _ _ _ h hF => ⟨h.1, hF⟩
theorem main_1_2 : Claimed_1_2 := comes_1 fun _ _ _ _ _ _ h hF => ⟨h.2.1, hF⟩
end Jvm.Pilot.@@N@@
namespace Jvm.Pilot.@@N@@
open Jvm Jvm.ClassFile Sem Op Lib Jvm.Free Jvm.Stand Jvm.Pilot.@@N@@.Jvm.D
/-! MADE BY PROGRAM (witnessworld.py) out of the Statement's table words and the real class files: 27 classes; the members and pool entries that the words name. The judged class is class 1, her method 1. -/
namespace start1
open Jvm.ClassFile
def u (s : String) : CpInfo := .utf8 (stringToUtf16 s)
/-- a pool by its gaps: so many unusable entries, then the entry; so many at the end -/
def gap : Nat → List CpInfo → List CpInfo
  | 0, r => r
  | n + 1, r => .unusable :: gap n r
def poolList (es : List (Nat × CpInfo)) (last : Nat) : List CpInfo := es.foldr (fun e r => gap e.1 (e.2 :: r)) (gap last [])
def pool (es : List (Nat × CpInfo)) (last : Nat) : Array CpInfo := ⟨poolList es last⟩
def fileOf (pool : Array CpInfo) (this : Nat) (attrs : Array Attribute := #[]) (ms : Array MethodInfo := #[]) (fl : Nat := 33) (sup : Nat := 0) (ifs : Array Nat := #[]) (fds : Array FieldInfo := #[]) : ClassFile where
  minorVersion := 0
  majorVersion := 65
  constantPool := pool
  accessFlags := fl
  thisClass := this
  superClass := sup
  interfaces := ifs
  fields := fds
  methods := ms
  attributes := attrs
def plain (name : String) (sup : Option ClassId) : Class where
  name := name
  kind := .ordinary
  loader := none
  accessFlags := 33
  super := sup
  interfaces := #[]
  cf := none
  fields := #[]
  methods := #[]
  instanceTypes := #[]
  staticTypes := #[]
  resolved := #[]
  callSites := []
  init := .initialized
  statics := none
  mirror := none

def pool0 : Array CpInfo := pool [(5, u "<init>"), (0, u "()V"), (1, .class_ 10), (1, u "java/lang/Object")] 113

def k0c0 : Code := { maxStack := 0, maxLocals := 1, code := object_method_1_code, exceptionTable := #[], attributes := #[] }
def k0m0 : Method := { name := "<init>", desc := "()V", sig := { parameters := [], returnType := none }, accessFlags := 1, code := some k0c0 }
/-- java/lang/Object -/
def k0 : Class := { plain "java/lang/Object" none with
  accessFlags := 33
  interfaces := #[]
  cf := some (fileOf pool0 8 #[] #[{ accessFlags := 1, nameIndex := 5, descriptorIndex := 6, attributes := #[] }] 33 0 #[] #[])
  fields := #[]
  methods := #[k0m0]
  instanceTypes := #[]
  staticTypes := #[]
  resolved := Array.replicate 124 none
  statics := none }

def pool1 : Array CpInfo := pool [(2, .class_ 4), (1, u "java/lang/Object"), (0, u "<init>"), (0, u "()V"), (0, .class_ 8), (0, u "com/example/xixi/xixi/consumer/TopicQueue"), (0, .methodref 10 11), (0, .class_ 12), (0, .nameAndType 13 14), (0, u "java/lang/String"), (0, u "valueOf"), (0, u "(C)Ljava/lang/String;"), (0, .methodref 7 16), (0, .nameAndType 5 17), (0, u "(Ljava/lang/String;I)V"), (0, .class_ 19), (0, u "com/example/xixi/xixi/consumer/PullRequest"), (0, .methodref 18 21), (0, .nameAndType 5 22), (0, u "(Lcom/example/xixi/xixi/consumer/TopicQueue;J)V"), (0, .methodref 18 24), (0, .nameAndType 25 26), (0, u "holdBack"), (0, u "(Z)Z"), (0, .class_ 28), (0, u "com/example/xixi/xixi/consumer/PullRequestHoldBackPinLaw"), (2, u "law"), (0, u "(IIJI)Z")] 3

def k1m0 : Method := { name := "<init>", desc := "()V", sig := { parameters := [], returnType := none }, accessFlags := 2, code := none }
def k1c1 : Code := { maxStack := 5, maxLocals := 22, code := code, exceptionTable := #[], attributes := #[] }
def k1m1 : Method := { name := "law", desc := "(IIJI)Z", sig := { parameters := [.int, .int, .long, .int], returnType := some .boolean }, accessFlags := 9, code := some k1c1 }
/-- com/example/xixi/xixi/consumer/PullRequestHoldBackPinLaw -/
def k1 : Class := { plain "com/example/xixi/xixi/consumer/PullRequestHoldBackPinLaw" (some 0) with
  accessFlags := 49
  interfaces := #[]
  cf := some (fileOf pool1 27 #[] #[{ accessFlags := 2, nameIndex := 5, descriptorIndex := 6, attributes := #[] }, { accessFlags := 9, nameIndex := 31, descriptorIndex := 32, attributes := #[] }] 49 2 #[] #[])
  fields := #[]
  methods := #[k1m0, k1m1]
  instanceTypes := #[]
  staticTypes := #[]
  resolved := Array.replicate 36 none
  statics := none }

def pool2 : Array CpInfo := pool [(1, .methodref 2 3), (0, .class_ 4), (0, .nameAndType 5 6), (0, u "java/lang/Object"), (0, u "<init>"), (0, u "()V"), (0, .class_ 8), (0, u "java/lang/Record")] 13

def k2c0 : Code := { maxStack := 1, maxLocals := 1, code := jdk_30_method_1_code, exceptionTable := #[], attributes := #[] }
def k2m0 : Method := { name := "<init>", desc := "()V", sig := { parameters := [], returnType := none }, accessFlags := 4, code := some k2c0 }
/-- java/lang/Record -/
def k2 : Class := { plain "java/lang/Record" (some 0) with
  accessFlags := 1057
  interfaces := #[]
  cf := some (fileOf pool2 7 #[] #[{ accessFlags := 4, nameIndex := 5, descriptorIndex := 6, attributes := #[] }] 1057 2 #[] #[])
  fields := #[]
  methods := #[k2m0]
  instanceTypes := #[]
  staticTypes := #[]
  resolved := Array.replicate 22 none
  statics := none }

def pool3 : Array CpInfo := pool [(1, .methodref 2 3), (0, .class_ 4), (0, .nameAndType 5 6), (0, u "java/lang/Record"), (0, u "<init>"), (0, u "()V"), (0, .fieldref 8 9), (0, .class_ 10), (0, .nameAndType 11 12), (0, u "com/example/xixi/xixi/consumer/TopicQueue"), (0, u "topic"), (0, u "Ljava/lang/String;"), (0, .fieldref 8 14), (0, .nameAndType 15 16), (0, u "queueId"), (0, u "I"), (12, u "(Ljava/lang/String;I)V")] 27

def k3c0 : Code := { maxStack := 2, maxLocals := 3, code := prog_21_method_1_code, exceptionTable := #[], attributes := #[] }
def k3m0 : Method := { name := "<init>", desc := "(Ljava/lang/String;I)V", sig := { parameters := [(.object "java/lang/String"), .int], returnType := none }, accessFlags := 1, code := some k3c0 }
/-- com/example/xixi/xixi/consumer/TopicQueue -/
def k3 : Class := { plain "com/example/xixi/xixi/consumer/TopicQueue" (some 2) with
  accessFlags := 49
  interfaces := #[]
  cf := some (fileOf pool3 8 #[] #[{ accessFlags := 1, nameIndex := 5, descriptorIndex := 29, attributes := #[] }] 49 2 #[] #[{ accessFlags := 18, nameIndex := 11, descriptorIndex := 12, attributes := #[] }, { accessFlags := 18, nameIndex := 15, descriptorIndex := 16, attributes := #[] }])
  fields := #[{ name := "topic", type := (.object "java/lang/String"), accessFlags := 18, slot := 0, constantValue := 0 }, { name := "queueId", type := .int, accessFlags := 18, slot := 1, constantValue := 0 }]
  methods := #[k3m0]
  instanceTypes := #[(.object "java/lang/String"), .int]
  staticTypes := #[]
  resolved := Array.replicate 57 none
  statics := none }

def pool4 : Array CpInfo := pool [(1, .class_ 2), (0, u "java/io/Serializable"), (0, .class_ 4), (0, u "java/lang/Object")] 2

/-- java/io/Serializable -/
def k4 : Class := { plain "java/io/Serializable" (some 0) with
  accessFlags := 1537
  interfaces := #[]
  cf := some (fileOf pool4 1 #[] #[] 1537 3 #[] #[])
  fields := #[]
  methods := #[]
  instanceTypes := #[]
  staticTypes := #[]
  resolved := Array.replicate 7 none
  statics := none }

def pool5 : Array CpInfo := pool [(1, .class_ 2), (0, u "java/lang/Comparable"), (0, .class_ 4), (0, u "java/lang/Object")] 7

/-- java/lang/Comparable -/
def k5 : Class := { plain "java/lang/Comparable" (some 0) with
  accessFlags := 1537
  interfaces := #[]
  cf := some (fileOf pool5 1 #[] #[] 1537 3 #[] #[])
  fields := #[]
  methods := #[]
  instanceTypes := #[]
  staticTypes := #[]
  resolved := Array.replicate 12 none
  statics := none }

def pool6 : Array CpInfo := pool [(2, .class_ 4), (1, u "java/lang/CharSequence"), (42, .class_ 48), (0, u "java/lang/CharSequence$1CodePointIterator"), (10, .class_ 60), (0, u "java/lang/CharSequence$1CharIterator"), (5, .class_ 67), (0, u "java/lang/Object")] 63

/-- java/lang/CharSequence -/
def k6 : Class := { plain "java/lang/CharSequence" (some 0) with
  accessFlags := 1537
  interfaces := #[]
  cf := some (fileOf pool6 2 #[.nestMembers #[47, 59]] #[] 1537 66 #[] #[])
  fields := #[]
  methods := #[]
  instanceTypes := #[]
  staticTypes := #[]
  resolved := Array.replicate 131 none
  statics := none }

def pool7 : Array CpInfo := pool [(1, .class_ 2), (0, u "java/lang/constant/Constable"), (0, .class_ 4), (0, u "java/lang/Object")] 6

/-- java/lang/constant/Constable -/
def k7 : Class := { plain "java/lang/constant/Constable" (some 0) with
  accessFlags := 1537
  interfaces := #[]
  cf := some (fileOf pool7 1 #[] #[] 1537 3 #[] #[])
  fields := #[]
  methods := #[]
  instanceTypes := #[]
  staticTypes := #[]
  resolved := Array.replicate 11 none
  statics := none }

def pool8 : Array CpInfo := pool [(1, .class_ 2), (0, u "java/lang/constant/ConstantDesc"), (0, .class_ 4), (0, u "java/lang/Object")] 32

/-- java/lang/constant/ConstantDesc -/
def k8 : Class := { plain "java/lang/constant/ConstantDesc" (some 0) with
  accessFlags := 1537
  interfaces := #[]
  cf := some (fileOf pool8 1 #[] #[] 1537 3 #[] #[])
  fields := #[]
  methods := #[]
  instanceTypes := #[]
  staticTypes := #[]
  resolved := Array.replicate 37 none
  statics := none }

def pool9 : Array CpInfo := pool [(1, .methodref 2 3), (0, .class_ 4), (0, .nameAndType 5 6), (0, u "java/lang/Object"), (0, u "<init>"), (0, u "()V"), (2, .fieldref 10 11), (0, .class_ 12), (0, .nameAndType 13 14), (0, u "java/lang/String"), (0, u "value"), (0, u "[B"), (0, .fieldref 10 16), (0, .nameAndType 17 18), (0, u "coder"), (0, u "B"), (2, u "hash"), (0, u "I"), (2, u "hashIsZero"), (0, u "Z"), (11, .fieldref 10 39), (0, .nameAndType 40 26), (0, u "COMPACT_STRINGS"), (12, u "toBytes"), (53, .class_ 109), (1, u "java/lang/StringLatin1"), (99, .methodref 10 210), (0, .nameAndType 5 211), (0, u "([BB)V"), (157, u "(C)Z"), (205, .class_ 576), (0, u "java/lang/CharSequence"), (22, u "CASE_INSENSITIVE_ORDER"), (0, u "Ljava/util/Comparator;"), (181, u "valueOf"), (0, u "(C)Ljava/lang/String;"), (231, .methodref 107 1016), (0, .nameAndType 1017 369), (0, u "canEncode"), (0, .methodref 107 1019), (0, .nameAndType 53 1020), (0, u "(C)[B"), (80, u "serialPersistentFields"), (0, u "[Ljava/io/ObjectStreamField;"), (0, .class_ 1104), (0, u "java/lang/String$CaseInsensitiveComparator"), (1, .class_ 1107), (0, u "java/io/Serializable"), (0, .class_ 1109), (0, u "java/lang/Comparable"), (0, .class_ 1111), (0, u "java/lang/constant/Constable"), (0, .class_ 1113), (0, u "java/lang/constant/ConstantDesc"), (2, u "serialVersionUID"), (0, u "J"), (3, u "REPL"), (0, u "C"), (2, u "LATIN1"), (1, u "UTF16")] 323

def k9m0 : Method := { name := "<init>", desc := "()V", sig := { parameters := [], returnType := none }, accessFlags := 1, code := none }
def k9c1 : Code := { maxStack := 4, maxLocals := 1, code := jdk_42_method_139_code, exceptionTable := #[], attributes := #[] }
def k9m1 : Method := { name := "valueOf", desc := "(C)Ljava/lang/String;", sig := { parameters := [.char], returnType := some (.object "java/lang/String") }, accessFlags := 9, code := some k9c1 }
def k9c2 : Code := { maxStack := 2, maxLocals := 3, code := jdk_42_method_151_code, exceptionTable := #[], attributes := #[] }
def k9m2 : Method := { name := "<init>", desc := "([BB)V", sig := { parameters := [(.array .byte), .byte], returnType := none }, accessFlags := 0, code := some k9c2 }
/-- java/lang/String -/
def k9 : Class := { plain "java/lang/String" (some 0) with
  accessFlags := 49
  interfaces := #[4, 5, 6, 7, 8]
  cf := some (fileOf pool9 10 #[.nestMembers #[1103]] #[{ accessFlags := 1, nameIndex := 5, descriptorIndex := 6, attributes := #[] }, { accessFlags := 9, nameIndex := 782, descriptorIndex := 783, attributes := #[] }, { accessFlags := 0, nameIndex := 5, descriptorIndex := 211, attributes := #[] }] 49 2 #[1106, 1108, 575, 1110, 1112] #[{ accessFlags := 18, nameIndex := 13, descriptorIndex := 14, attributes := #[] }, { accessFlags := 18, nameIndex := 17, descriptorIndex := 18, attributes := #[] }, { accessFlags := 2, nameIndex := 21, descriptorIndex := 22, attributes := #[] }, { accessFlags := 2, nameIndex := 25, descriptorIndex := 26, attributes := #[] }, { accessFlags := 26, nameIndex := 1116, descriptorIndex := 1117, attributes := #[] }, { accessFlags := 24, nameIndex := 40, descriptorIndex := 26, attributes := #[] }, { accessFlags := 26, nameIndex := 1101, descriptorIndex := 1102, attributes := #[] }, { accessFlags := 26, nameIndex := 1121, descriptorIndex := 1122, attributes := #[] }, { accessFlags := 25, nameIndex := 599, descriptorIndex := 600, attributes := #[] }, { accessFlags := 24, nameIndex := 1125, descriptorIndex := 18, attributes := #[] }, { accessFlags := 24, nameIndex := 1127, descriptorIndex := 18, attributes := #[] }])
  fields := #[{ name := "value", type := (.array .byte), accessFlags := 18, slot := 0, constantValue := 0 }, { name := "coder", type := .byte, accessFlags := 18, slot := 1, constantValue := 0 }, { name := "hash", type := .int, accessFlags := 2, slot := 2, constantValue := 0 }, { name := "hashIsZero", type := .boolean, accessFlags := 2, slot := 3, constantValue := 0 }, { name := "serialVersionUID", type := .long, accessFlags := 26, slot := 0, constantValue := 0 }, { name := "COMPACT_STRINGS", type := .boolean, accessFlags := 24, slot := 1, constantValue := 0 }, { name := "serialPersistentFields", type := (.array (.object "java/io/ObjectStreamField")), accessFlags := 26, slot := 2, constantValue := 0 }, { name := "REPL", type := .char, accessFlags := 26, slot := 3, constantValue := 0 }, { name := "CASE_INSENSITIVE_ORDER", type := (.object "java/util/Comparator"), accessFlags := 25, slot := 4, constantValue := 0 }, { name := "LATIN1", type := .byte, accessFlags := 24, slot := 5, constantValue := 0 }, { name := "UTF16", type := .byte, accessFlags := 24, slot := 6, constantValue := 0 }]
  methods := #[k9m0, k9m1, k9m2]
  instanceTypes := #[(.array .byte), .byte, .int, .boolean]
  staticTypes := #[.long, .boolean, (.array (.object "java/io/ObjectStreamField")), .char, (.object "java/util/Comparator"), .byte, .byte]
  resolved := Array.replicate 1451 none
  statics := some 0 }

def pool10 : Array CpInfo := pool [(4, .class_ 6), (1, u "java/lang/Object"), (0, u "<init>"), (0, u "()V"), (5, .class_ 16), (1, u "java/lang/StringLatin1"), (73, u "canEncode"), (14, u "(C)Z"), (15, u "$assertionsDisabled"), (0, u "Z"), (98, .class_ 223), (1, u "java/lang/StringLatin1$LinesSpliterator"), (156, u "toBytes"), (1, u "(C)[B"), (7, .class_ 391), (0, u "java/lang/StringLatin1$CharsSpliterator")] 3

def k10m0 : Method := { name := "<init>", desc := "()V", sig := { parameters := [], returnType := none }, accessFlags := 0, code := none }
def k10c1 : Code := { maxStack := 2, maxLocals := 1, code := jdk_43_method_3_code, exceptionTable := #[], attributes := #[] }
def k10m1 : Method := { name := "canEncode", desc := "(C)Z", sig := { parameters := [.char], returnType := some .boolean }, accessFlags := 9, code := some k10c1 }
def k10c2 : Code := { maxStack := 4, maxLocals := 1, code := jdk_43_method_46_code, exceptionTable := #[], attributes := #[] }
def k10m2 : Method := { name := "toBytes", desc := "(C)[B", sig := { parameters := [.char], returnType := some (.array .byte) }, accessFlags := 9, code := some k10c2 }
/-- java/lang/StringLatin1 -/
def k10 : Class := { plain "java/lang/StringLatin1" (some 0) with
  accessFlags := 48
  interfaces := #[]
  cf := some (fileOf pool10 14 #[.nestMembers #[390, 221]] #[{ accessFlags := 0, nameIndex := 7, descriptorIndex := 8, attributes := #[] }, { accessFlags := 9, nameIndex := 90, descriptorIndex := 105, attributes := #[] }, { accessFlags := 9, nameIndex := 380, descriptorIndex := 382, attributes := #[] }] 48 4 #[] #[{ accessFlags := 4120, nameIndex := 121, descriptorIndex := 122, attributes := #[] }])
  fields := #[{ name := "$assertionsDisabled", type := .boolean, accessFlags := 4120, slot := 0, constantValue := 0 }]
  methods := #[k10m0, k10m1, k10m2]
  instanceTypes := #[]
  staticTypes := #[.boolean]
  resolved := Array.replicate 395 none
  statics := none }

def pool11 : Array CpInfo := pool [(1, .methodref 2 3), (0, .class_ 4), (0, .nameAndType 5 6), (0, u "java/lang/Object"), (0, u "<init>"), (0, u "()V"), (0, .class_ 8), (0, u "java/util/concurrent/atomic/AtomicBoolean"), (0, .methodref 7 3), (0, .fieldref 11 12), (0, .class_ 13), (0, .nameAndType 14 15), (0, u "com/example/xixi/xixi/consumer/PullRequest"), (0, u "commitPlanned"), (0, u "Ljava/util/concurrent/atomic/AtomicBoolean;"), (0, .fieldref 11 17), (0, .nameAndType 18 19), (0, u "queue"), (0, u "Lcom/example/xixi/xixi/consumer/TopicQueue;"), (0, .class_ 21), (0, u "com/example/xixi/xixi/consumer/QueueCache"), (0, .methodref 20 23), (0, .nameAndType 5 24), (0, u "(J)V"), (0, .fieldref 11 26), (0, .nameAndType 27 28), (0, u "cache"), (0, u "Lcom/example/xixi/xixi/consumer/QueueCache;"), (14, .fieldref 11 44), (0, .nameAndType 45 46), (0, u "heldBack"), (0, u "Z"), (10, u "givenUp"), (3, u "(Lcom/example/xixi/xixi/consumer/TopicQueue;J)V"), (5, u "holdBack"), (0, u "(Z)Z")] 9

def k11c0 : Code := { maxStack := 5, maxLocals := 4, code := prog_18_method_1_code, exceptionTable := #[], attributes := #[] }
def k11m0 : Method := { name := "<init>", desc := "(Lcom/example/xixi/xixi/consumer/TopicQueue;J)V", sig := { parameters := [(.object "com/example/xixi/xixi/consumer/TopicQueue"), .long], returnType := none }, accessFlags := 0, code := some k11c0 }
def k11c1 : Code := { maxStack := 2, maxLocals := 3, code := prog_18_method_7_code, exceptionTable := #[], attributes := #[] }
def k11m1 : Method := { name := "holdBack", desc := "(Z)Z", sig := { parameters := [.boolean], returnType := some .boolean }, accessFlags := 0, code := some k11c1 }
/-- com/example/xixi/xixi/consumer/PullRequest -/
def k11 : Class := { plain "com/example/xixi/xixi/consumer/PullRequest" (some 0) with
  accessFlags := 32
  interfaces := #[]
  cf := some (fileOf pool11 11 #[] #[{ accessFlags := 0, nameIndex := 5, descriptorIndex := 61, attributes := #[] }, { accessFlags := 0, nameIndex := 67, descriptorIndex := 68, attributes := #[] }] 32 2 #[] #[{ accessFlags := 18, nameIndex := 18, descriptorIndex := 19, attributes := #[] }, { accessFlags := 66, nameIndex := 27, descriptorIndex := 28, attributes := #[] }, { accessFlags := 2, nameIndex := 45, descriptorIndex := 46, attributes := #[] }, { accessFlags := 18, nameIndex := 14, descriptorIndex := 15, attributes := #[] }, { accessFlags := 66, nameIndex := 57, descriptorIndex := 46, attributes := #[] }])
  fields := #[{ name := "queue", type := (.object "com/example/xixi/xixi/consumer/TopicQueue"), accessFlags := 18, slot := 0, constantValue := 0 }, { name := "cache", type := (.object "com/example/xixi/xixi/consumer/QueueCache"), accessFlags := 66, slot := 1, constantValue := 0 }, { name := "heldBack", type := .boolean, accessFlags := 2, slot := 2, constantValue := 0 }, { name := "commitPlanned", type := (.object "java/util/concurrent/atomic/AtomicBoolean"), accessFlags := 18, slot := 3, constantValue := 0 }, { name := "givenUp", type := .boolean, accessFlags := 66, slot := 4, constantValue := 0 }]
  methods := #[k11m0, k11m1]
  instanceTypes := #[(.object "com/example/xixi/xixi/consumer/TopicQueue"), (.object "com/example/xixi/xixi/consumer/QueueCache"), .boolean, (.object "java/util/concurrent/atomic/AtomicBoolean"), .boolean]
  staticTypes := #[]
  resolved := Array.replicate 78 none
  statics := none }

def pool12 : Array CpInfo := pool [(1, .methodref 2 3), (0, .class_ 4), (0, .nameAndType 5 6), (0, u "java/lang/Object"), (0, u "<init>"), (0, u "()V"), (1, .class_ 10), (1, u "java/util/concurrent/atomic/AtomicBoolean"), (0, u "value"), (0, u "I"), (2, u "VALUE"), (0, u "Ljava/lang/invoke/VarHandle;"), (87, .class_ 105), (0, u "java/io/Serializable"), (0, u "serialVersionUID"), (0, u "J")] 35

def k12c0 : Code := { maxStack := 1, maxLocals := 1, code := jdk_2802_method_2_code, exceptionTable := #[], attributes := #[] }
def k12m0 : Method := { name := "<init>", desc := "()V", sig := { parameters := [], returnType := none }, accessFlags := 1, code := some k12c0 }
/-- java/util/concurrent/atomic/AtomicBoolean -/
def k12 : Class := { plain "java/util/concurrent/atomic/AtomicBoolean" (some 0) with
  accessFlags := 33
  interfaces := #[4]
  cf := some (fileOf pool12 8 #[] #[{ accessFlags := 1, nameIndex := 5, descriptorIndex := 6, attributes := #[] }] 33 2 #[104] #[{ accessFlags := 26, nameIndex := 106, descriptorIndex := 107, attributes := #[] }, { accessFlags := 26, nameIndex := 15, descriptorIndex := 16, attributes := #[] }, { accessFlags := 66, nameIndex := 11, descriptorIndex := 12, attributes := #[] }])
  fields := #[{ name := "serialVersionUID", type := .long, accessFlags := 26, slot := 0, constantValue := 0 }, { name := "VALUE", type := (.object "java/lang/invoke/VarHandle"), accessFlags := 26, slot := 1, constantValue := 0 }, { name := "value", type := .int, accessFlags := 66, slot := 0, constantValue := 0 }]
  methods := #[k12m0]
  instanceTypes := #[.int]
  staticTypes := #[.long, (.object "java/lang/invoke/VarHandle")]
  resolved := Array.replicate 143 none
  statics := none }

def pool13 : Array CpInfo := pool [(1, .methodref 2 3), (0, .class_ 4), (0, .nameAndType 5 6), (0, u "java/lang/Object"), (0, u "<init>"), (0, u "()V"), (0, .class_ 8), (0, u "java/util/TreeMap"), (0, .methodref 7 3), (0, .fieldref 11 12), (0, .class_ 13), (0, .nameAndType 14 15), (0, u "com/example/xixi/xixi/consumer/QueueCache"), (0, u "messages"), (0, u "Ljava/util/NavigableMap;"), (0, .long 18446744073709551615), (1, .fieldref 11 19), (0, .nameAndType 20 21), (0, u "largestPulled"), (0, u "J"), (0, .fieldref 11 23), (0, .nameAndType 24 21), (0, u "nextOffset"), (0, .fieldref 11 26), (0, .nameAndType 27 21), (0, u "progress"), (20, u "bytes"), (37, u "dropped"), (0, u "Z"), (27, u "(J)V")] 13

def k13c0 : Code := { maxStack := 3, maxLocals := 3, code := prog_20_method_1_code, exceptionTable := #[], attributes := #[] }
def k13m0 : Method := { name := "<init>", desc := "(J)V", sig := { parameters := [.long], returnType := none }, accessFlags := 0, code := some k13c0 }
/-- com/example/xixi/xixi/consumer/QueueCache -/
def k13 : Class := { plain "com/example/xixi/xixi/consumer/QueueCache" (some 0) with
  accessFlags := 32
  interfaces := #[]
  cf := some (fileOf pool13 11 #[] #[{ accessFlags := 0, nameIndex := 5, descriptorIndex := 115, attributes := #[] }] 32 2 #[] #[{ accessFlags := 18, nameIndex := 14, descriptorIndex := 15, attributes := #[] }, { accessFlags := 2, nameIndex := 48, descriptorIndex := 21, attributes := #[] }, { accessFlags := 2, nameIndex := 20, descriptorIndex := 21, attributes := #[] }, { accessFlags := 2, nameIndex := 24, descriptorIndex := 21, attributes := #[] }, { accessFlags := 2, nameIndex := 27, descriptorIndex := 21, attributes := #[] }, { accessFlags := 2, nameIndex := 86, descriptorIndex := 87, attributes := #[] }])
  fields := #[{ name := "messages", type := (.object "java/util/NavigableMap"), accessFlags := 18, slot := 0, constantValue := 0 }, { name := "bytes", type := .long, accessFlags := 2, slot := 1, constantValue := 0 }, { name := "largestPulled", type := .long, accessFlags := 2, slot := 2, constantValue := 0 }, { name := "nextOffset", type := .long, accessFlags := 2, slot := 3, constantValue := 0 }, { name := "progress", type := .long, accessFlags := 2, slot := 4, constantValue := 0 }, { name := "dropped", type := .boolean, accessFlags := 2, slot := 5, constantValue := 0 }]
  methods := #[k13m0]
  instanceTypes := #[(.object "java/util/NavigableMap"), .long, .long, .long, .long, .boolean]
  staticTypes := #[]
  resolved := Array.replicate 129 none
  statics := none }

def pool14 : Array CpInfo := pool [(2, .class_ 4), (1, u "java/util/Map"), (31, .class_ 37), (0, u "java/util/Map$Entry"), (55, .class_ 94), (0, u "java/lang/Object")] 168

/-- java/util/Map -/
def k14 : Class := { plain "java/util/Map" (some 0) with
  accessFlags := 1537
  interfaces := #[]
  cf := some (fileOf pool14 2 #[.nestMembers #[36]] #[] 1537 93 #[] #[])
  fields := #[]
  methods := #[]
  instanceTypes := #[]
  staticTypes := #[]
  resolved := Array.replicate 263 none
  statics := none }

def pool15 : Array CpInfo := pool [(1, .methodref 2 3), (0, .class_ 4), (0, .nameAndType 5 6), (0, u "java/lang/Object"), (0, u "<init>"), (0, u "()V"), (1, .class_ 10), (1, u "java/util/AbstractMap"), (42, .class_ 54), (0, u "java/util/Map"), (9, u "keySet"), (0, u "Ljava/util/Set;"), (0, .class_ 67), (0, u "java/util/AbstractMap$1"), (5, u "values"), (0, u "Ljava/util/Collection;"), (0, .class_ 76), (0, u "java/util/AbstractMap$2"), (104, .class_ 182), (0, u "java/util/AbstractMap$ViewCollection"), (0, .class_ 184), (0, u "java/util/AbstractMap$SimpleImmutableEntry"), (0, .class_ 186), (0, u "java/util/AbstractMap$SimpleEntry"), (0, .class_ 188), (0, u "java/util/AbstractMap$2$1"), (0, .class_ 190), (0, u "java/util/AbstractMap$1$1")] 5

def k15c0 : Code := { maxStack := 1, maxLocals := 1, code := jdk_71_method_1_code, exceptionTable := #[], attributes := #[] }
def k15m0 : Method := { name := "<init>", desc := "()V", sig := { parameters := [], returnType := none }, accessFlags := 4, code := some k15c0 }
/-- java/util/AbstractMap -/
def k15 : Class := { plain "java/util/AbstractMap" (some 0) with
  accessFlags := 1057
  interfaces := #[14]
  cf := some (fileOf pool15 8 #[.nestMembers #[181, 183, 185, 75, 187, 66, 189]] #[{ accessFlags := 4, nameIndex := 5, descriptorIndex := 6, attributes := #[] }] 1057 2 #[53] #[{ accessFlags := 128, nameIndex := 64, descriptorIndex := 65, attributes := #[] }, { accessFlags := 128, nameIndex := 73, descriptorIndex := 74, attributes := #[] }])
  fields := #[{ name := "keySet", type := (.object "java/util/Set"), accessFlags := 128, slot := 0, constantValue := 0 }, { name := "values", type := (.object "java/util/Collection"), accessFlags := 128, slot := 1, constantValue := 0 }]
  methods := #[k15m0]
  instanceTypes := #[(.object "java/util/Set"), (.object "java/util/Collection")]
  staticTypes := #[]
  resolved := Array.replicate 196 none
  statics := none }

def pool16 : Array CpInfo := pool [(2, .class_ 4), (1, u "java/util/SequencedMap"), (38, .class_ 44), (0, u "java/util/SequencedMap$1SeqKeySet"), (3, .class_ 49), (0, u "java/util/SequencedMap$1SeqValues"), (1, .class_ 52), (0, u "java/util/SequencedMap$1SeqEntrySet"), (1, .class_ 55), (0, u "java/lang/Object"), (0, .class_ 57), (0, u "java/util/Map")] 48

/-- java/util/SequencedMap -/
def k16 : Class := { plain "java/util/SequencedMap" (some 0) with
  accessFlags := 1537
  interfaces := #[14]
  cf := some (fileOf pool16 2 #[.nestMembers #[51, 48, 43]] #[] 1537 54 #[56] #[])
  fields := #[]
  methods := #[]
  instanceTypes := #[]
  staticTypes := #[]
  resolved := Array.replicate 106 none
  statics := none }

def pool17 : Array CpInfo := pool [(14, .class_ 16), (1, u "java/util/SortedMap"), (2, .class_ 20), (0, u "java/lang/Object"), (0, .class_ 22), (0, u "java/util/SequencedMap")] 50

/-- java/util/SortedMap -/
def k17 : Class := { plain "java/util/SortedMap" (some 0) with
  accessFlags := 1537
  interfaces := #[16]
  cf := some (fileOf pool17 14 #[] #[] 1537 19 #[21] #[])
  fields := #[]
  methods := #[]
  instanceTypes := #[]
  staticTypes := #[]
  resolved := Array.replicate 73 none
  statics := none }

def pool18 : Array CpInfo := pool [(2, .class_ 4), (1, u "java/util/NavigableMap"), (5, .class_ 11), (0, u "java/lang/Object"), (0, .class_ 13), (0, u "java/util/SortedMap")] 53

/-- java/util/NavigableMap -/
def k18 : Class := { plain "java/util/NavigableMap" (some 0) with
  accessFlags := 1537
  interfaces := #[17]
  cf := some (fileOf pool18 2 #[] #[] 1537 10 #[12] #[])
  fields := #[]
  methods := #[]
  instanceTypes := #[]
  staticTypes := #[]
  resolved := Array.replicate 67 none
  statics := none }

def pool19 : Array CpInfo := pool [(1, .class_ 2), (0, u "java/lang/Cloneable"), (0, .class_ 4), (0, u "java/lang/Object")] 2

/-- java/lang/Cloneable -/
def k19 : Class := { plain "java/lang/Cloneable" (some 0) with
  accessFlags := 1537
  interfaces := #[]
  cf := some (fileOf pool19 1 #[] #[] 1537 3 #[] #[])
  fields := #[]
  methods := #[]
  instanceTypes := #[]
  staticTypes := #[]
  resolved := Array.replicate 7 none
  statics := none }

def pool20 : Array CpInfo := pool [(1, .methodref 2 3), (0, .class_ 4), (0, .nameAndType 5 6), (0, u "java/util/AbstractMap"), (0, u "<init>"), (0, u "()V"), (0, .fieldref 8 9), (0, .class_ 10), (0, .nameAndType 11 12), (0, u "java/util/TreeMap"), (0, u "size"), (0, u "I"), (0, .fieldref 8 14), (0, .nameAndType 15 12), (0, u "modCount"), (0, .fieldref 8 17), (0, .nameAndType 18 19), (0, u "comparator"), (0, u "Ljava/util/Comparator;"), (14, u "entrySet"), (24, .class_ 61), (1, u "java/util/TreeMap$Entry"), (1, u "Ljava/lang/Object;"), (39, u "root"), (0, u "Ljava/util/TreeMap$Entry;"), (85, u "Ljava/util/TreeMap$EntrySet;"), (2, u "navigableKeySet"), (0, u "Ljava/util/TreeMap$KeySet;"), (2, u "descendingMap"), (0, u "Ljava/util/NavigableMap;"), (23, .class_ 223), (0, u "java/util/TreeMap$KeySet"), (7, .class_ 232), (0, u "java/util/NavigableMap"), (4, .class_ 238), (0, u "java/util/TreeMap$Values"), (3, .class_ 243), (0, u "java/util/TreeMap$EntrySet"), (1, .class_ 246), (0, u "java/util/TreeMap$DescendingSubMap"), (3, .class_ 251), (0, u "java/util/TreeMap$AscendingSubMap"), (17, .class_ 270), (0, u "java/util/TreeMap$KeyIterator"), (3, .class_ 275), (0, u "java/util/TreeMap$DescendingKeyIterator"), (17, u "Z"), (94, .class_ 389), (0, u "java/util/TreeMap$NavigableSubMap"), (1, .class_ 392), (0, u "java/util/TreeMap$KeySpliterator"), (3, .class_ 397), (0, u "java/util/TreeMap$DescendingKeySpliterator"), (4, u "UNBOUNDED"), (0, .class_ 404), (0, u "java/lang/Cloneable"), (0, .class_ 406), (0, u "java/io/Serializable"), (6, u "RED"), (2, u "BLACK"), (1, u "serialVersionUID"), (0, u "J"), (214, .class_ 635), (0, u "java/util/TreeMap$EntrySpliterator"), (0, .class_ 637), (0, u "java/util/TreeMap$ValueSpliterator"), (0, .class_ 639), (0, u "java/util/TreeMap$TreeMapSpliterator"), (0, .class_ 641), (0, u "java/util/TreeMap$SubMap"), (0, .class_ 643), (0, u "java/util/TreeMap$DescendingSubMap$DescendingEntrySetView"), (0, .class_ 645), (0, u "java/util/TreeMap$AscendingSubMap$AscendingEntrySetView"), (0, .class_ 647), (0, u "java/util/TreeMap$NavigableSubMap$DescendingSubMapKeyIterator"), (0, .class_ 649), (0, u "java/util/TreeMap$NavigableSubMap$SubMapKeyIterator"), (0, .class_ 651), (0, u "java/util/TreeMap$NavigableSubMap$DescendingSubMapEntryIterator"), (0, .class_ 653), (0, u "java/util/TreeMap$NavigableSubMap$SubMapEntryIterator"), (0, .class_ 655), (0, u "java/util/TreeMap$NavigableSubMap$SubMapIterator"), (0, .class_ 657), (0, u "java/util/TreeMap$NavigableSubMap$EntrySetView"), (0, .class_ 659), (0, u "java/util/TreeMap$ValueIterator"), (0, .class_ 661), (0, u "java/util/TreeMap$EntryIterator"), (0, .class_ 663), (0, u "java/util/TreeMap$PrivateEntryIterator")] 28

def k20c0 : Code := { maxStack := 2, maxLocals := 1, code := jdk_2729_method_1_code, exceptionTable := #[], attributes := #[] }
def k20m0 : Method := { name := "<init>", desc := "()V", sig := { parameters := [], returnType := none }, accessFlags := 1, code := some k20c0 }
/-- java/util/TreeMap -/
def k20 : Class := { plain "java/util/TreeMap" (some 15) with
  accessFlags := 33
  interfaces := #[18, 19, 4]
  cf := some (fileOf pool20 8 #[.nestMembers #[634, 636, 396, 391, 638, 59, 640, 245, 642, 250, 644, 388, 646, 648, 650, 652, 654, 656, 274, 269, 658, 660, 662, 222, 242, 237]] #[{ accessFlags := 1, nameIndex := 5, descriptorIndex := 6, attributes := #[] }] 33 2 #[231, 403, 405] #[{ accessFlags := 18, nameIndex := 18, descriptorIndex := 19, attributes := #[] }, { accessFlags := 130, nameIndex := 103, descriptorIndex := 104, attributes := #[] }, { accessFlags := 130, nameIndex := 11, descriptorIndex := 12, attributes := #[] }, { accessFlags := 130, nameIndex := 15, descriptorIndex := 12, attributes := #[] }, { accessFlags := 130, nameIndex := 34, descriptorIndex := 190, attributes := #[] }, { accessFlags := 130, nameIndex := 193, descriptorIndex := 194, attributes := #[] }, { accessFlags := 130, nameIndex := 197, descriptorIndex := 198, attributes := #[] }, { accessFlags := 26, nameIndex := 402, descriptorIndex := 63, attributes := #[] }, { accessFlags := 26, nameIndex := 413, descriptorIndex := 293, attributes := #[] }, { accessFlags := 26, nameIndex := 416, descriptorIndex := 293, attributes := #[] }, { accessFlags := 26, nameIndex := 418, descriptorIndex := 419, attributes := #[] }])
  fields := #[{ name := "comparator", type := (.object "java/util/Comparator"), accessFlags := 18, slot := 2, constantValue := 0 }, { name := "root", type := (.object "java/util/TreeMap$Entry"), accessFlags := 130, slot := 3, constantValue := 0 }, { name := "size", type := .int, accessFlags := 130, slot := 4, constantValue := 0 }, { name := "modCount", type := .int, accessFlags := 130, slot := 5, constantValue := 0 }, { name := "entrySet", type := (.object "java/util/TreeMap$EntrySet"), accessFlags := 130, slot := 6, constantValue := 0 }, { name := "navigableKeySet", type := (.object "java/util/TreeMap$KeySet"), accessFlags := 130, slot := 7, constantValue := 0 }, { name := "descendingMap", type := (.object "java/util/NavigableMap"), accessFlags := 130, slot := 8, constantValue := 0 }, { name := "UNBOUNDED", type := (.object "java/lang/Object"), accessFlags := 26, slot := 0, constantValue := 0 }, { name := "RED", type := .boolean, accessFlags := 26, slot := 1, constantValue := 0 }, { name := "BLACK", type := .boolean, accessFlags := 26, slot := 2, constantValue := 0 }, { name := "serialVersionUID", type := .long, accessFlags := 26, slot := 3, constantValue := 0 }]
  methods := #[k20m0]
  instanceTypes := #[(.object "java/util/Set"), (.object "java/util/Collection"), (.object "java/util/Comparator"), (.object "java/util/TreeMap$Entry"), .int, .int, (.object "java/util/TreeMap$EntrySet"), (.object "java/util/TreeMap$KeySet"), (.object "java/util/NavigableMap")]
  staticTypes := #[(.object "java/lang/Object"), .boolean, .boolean, .long]
  resolved := Array.replicate 692 none
  statics := none }

def pool21 : Array CpInfo := pool [(2, .class_ 4), (1, u "java/lang/Object"), (0, u "<init>"), (0, u "()V"), (17, .class_ 26), (1, u "jdk/internal/util/Preconditions"), (28, .class_ 56), (0, u "jdk/internal/util/Preconditions$4"), (57, .class_ 115), (0, u "jdk/internal/util/Preconditions$1"), (7, u "SIOOBE_FORMATTER"), (0, u "Ljava/util/function/BiFunction;"), (0, .class_ 126), (0, u "jdk/internal/util/Preconditions$2"), (3, u "AIOOBE_FORMATTER"), (0, .class_ 132), (0, u "jdk/internal/util/Preconditions$3"), (3, u "IOOBE_FORMATTER")] 57

def k21m0 : Method := { name := "<init>", desc := "()V", sig := { parameters := [], returnType := none }, accessFlags := 1, code := none }
/-- jdk/internal/util/Preconditions -/
def k21 : Class := { plain "jdk/internal/util/Preconditions" (some 0) with
  accessFlags := 33
  interfaces := #[]
  cf := some (fileOf pool21 24 #[.nestMembers #[55, 131, 125, 114]] #[{ accessFlags := 1, nameIndex := 5, descriptorIndex := 6, attributes := #[] }] 33 2 #[] #[{ accessFlags := 25, nameIndex := 123, descriptorIndex := 124, attributes := #[] }, { accessFlags := 25, nameIndex := 130, descriptorIndex := 124, attributes := #[] }, { accessFlags := 25, nameIndex := 136, descriptorIndex := 124, attributes := #[] }])
  fields := #[{ name := "SIOOBE_FORMATTER", type := (.object "java/util/function/BiFunction"), accessFlags := 25, slot := 0, constantValue := 0 }, { name := "AIOOBE_FORMATTER", type := (.object "java/util/function/BiFunction"), accessFlags := 25, slot := 1, constantValue := 0 }, { name := "IOOBE_FORMATTER", type := (.object "java/util/function/BiFunction"), accessFlags := 25, slot := 2, constantValue := 0 }]
  methods := #[k21m0]
  instanceTypes := #[]
  staticTypes := #[(.object "java/util/function/BiFunction"), (.object "java/util/function/BiFunction"), (.object "java/util/function/BiFunction")]
  resolved := Array.replicate 194 none
  statics := some 1 }

def pool22 : Array CpInfo := pool [(9, u "<init>"), (6, .class_ 18), (1, u "java/lang/Object"), (0, u "()V"), (1, .class_ 23), (1, u "jdk/internal/util/ArraysSupport"), (0, u "LOG2_ARRAY_LONG_INDEX_SCALE"), (0, u "I"), (2, u "U"), (0, u "Ljdk/internal/misc/Unsafe;"), (8, u "BIG_ENDIAN"), (0, u "Z"), (8, u "LOG2_BYTE_BIT_SIZE"), (4, u "LOG2_ARRAY_INT_INDEX_SCALE"), (54, u "JLA"), (0, u "Ljdk/internal/access/JavaLangAccess;"), (11, u "LOG2_ARRAY_BOOLEAN_INDEX_SCALE"), (9, u "LOG2_ARRAY_BYTE_INDEX_SCALE"), (5, u "LOG2_ARRAY_CHAR_INDEX_SCALE"), (5, u "LOG2_ARRAY_SHORT_INDEX_SCALE"), (18, u "LOG2_ARRAY_FLOAT_INDEX_SCALE"), (24, u "LOG2_ARRAY_DOUBLE_INDEX_SCALE"), (89, u "T_BOOLEAN"), (2, u "T_CHAR"), (1, u "T_FLOAT"), (1, u "T_DOUBLE"), (1, u "T_BYTE"), (1, u "T_SHORT"), (1, u "T_INT"), (1, u "T_LONG"), (1, u "SOFT_MAX_ARRAY_LENGTH")] 83

def k22m0 : Method := { name := "<init>", desc := "()V", sig := { parameters := [], returnType := none }, accessFlags := 2, code := none }
/-- jdk/internal/util/ArraysSupport -/
def k22 : Class := { plain "jdk/internal/util/ArraysSupport" (some 0) with
  accessFlags := 33
  interfaces := #[]
  cf := some (fileOf pool22 21 #[] #[{ accessFlags := 2, nameIndex := 9, descriptorIndex := 19, attributes := #[] }] 33 16 #[] #[{ accessFlags := 24, nameIndex := 28, descriptorIndex := 29, attributes := #[] }, { accessFlags := 26, nameIndex := 38, descriptorIndex := 39, attributes := #[] }, { accessFlags := 25, nameIndex := 121, descriptorIndex := 25, attributes := #[] }, { accessFlags := 25, nameIndex := 131, descriptorIndex := 25, attributes := #[] }, { accessFlags := 25, nameIndex := 137, descriptorIndex := 25, attributes := #[] }, { accessFlags := 25, nameIndex := 143, descriptorIndex := 25, attributes := #[] }, { accessFlags := 25, nameIndex := 53, descriptorIndex := 25, attributes := #[] }, { accessFlags := 25, nameIndex := 24, descriptorIndex := 25, attributes := #[] }, { accessFlags := 25, nameIndex := 162, descriptorIndex := 25, attributes := #[] }, { accessFlags := 25, nameIndex := 187, descriptorIndex := 25, attributes := #[] }, { accessFlags := 26, nameIndex := 48, descriptorIndex := 25, attributes := #[] }, { accessFlags := 25, nameIndex := 277, descriptorIndex := 25, attributes := #[] }, { accessFlags := 25, nameIndex := 280, descriptorIndex := 25, attributes := #[] }, { accessFlags := 25, nameIndex := 282, descriptorIndex := 25, attributes := #[] }, { accessFlags := 25, nameIndex := 284, descriptorIndex := 25, attributes := #[] }, { accessFlags := 25, nameIndex := 286, descriptorIndex := 25, attributes := #[] }, { accessFlags := 25, nameIndex := 288, descriptorIndex := 25, attributes := #[] }, { accessFlags := 25, nameIndex := 290, descriptorIndex := 25, attributes := #[] }, { accessFlags := 25, nameIndex := 292, descriptorIndex := 25, attributes := #[] }, { accessFlags := 26, nameIndex := 108, descriptorIndex := 109, attributes := #[] }, { accessFlags := 25, nameIndex := 294, descriptorIndex := 25, attributes := #[] }])
  fields := #[{ name := "U", type := (.object "jdk/internal/misc/Unsafe"), accessFlags := 24, slot := 0, constantValue := 0 }, { name := "BIG_ENDIAN", type := .boolean, accessFlags := 26, slot := 1, constantValue := 0 }, { name := "LOG2_ARRAY_BOOLEAN_INDEX_SCALE", type := .int, accessFlags := 25, slot := 2, constantValue := 0 }, { name := "LOG2_ARRAY_BYTE_INDEX_SCALE", type := .int, accessFlags := 25, slot := 3, constantValue := 0 }, { name := "LOG2_ARRAY_CHAR_INDEX_SCALE", type := .int, accessFlags := 25, slot := 4, constantValue := 0 }, { name := "LOG2_ARRAY_SHORT_INDEX_SCALE", type := .int, accessFlags := 25, slot := 5, constantValue := 0 }, { name := "LOG2_ARRAY_INT_INDEX_SCALE", type := .int, accessFlags := 25, slot := 6, constantValue := 0 }, { name := "LOG2_ARRAY_LONG_INDEX_SCALE", type := .int, accessFlags := 25, slot := 7, constantValue := 0 }, { name := "LOG2_ARRAY_FLOAT_INDEX_SCALE", type := .int, accessFlags := 25, slot := 8, constantValue := 0 }, { name := "LOG2_ARRAY_DOUBLE_INDEX_SCALE", type := .int, accessFlags := 25, slot := 9, constantValue := 0 }, { name := "LOG2_BYTE_BIT_SIZE", type := .int, accessFlags := 26, slot := 10, constantValue := 0 }, { name := "T_BOOLEAN", type := .int, accessFlags := 25, slot := 11, constantValue := 0 }, { name := "T_CHAR", type := .int, accessFlags := 25, slot := 12, constantValue := 0 }, { name := "T_FLOAT", type := .int, accessFlags := 25, slot := 13, constantValue := 0 }, { name := "T_DOUBLE", type := .int, accessFlags := 25, slot := 14, constantValue := 0 }, { name := "T_BYTE", type := .int, accessFlags := 25, slot := 15, constantValue := 0 }, { name := "T_SHORT", type := .int, accessFlags := 25, slot := 16, constantValue := 0 }, { name := "T_INT", type := .int, accessFlags := 25, slot := 17, constantValue := 0 }, { name := "T_LONG", type := .int, accessFlags := 25, slot := 18, constantValue := 0 }, { name := "JLA", type := (.object "jdk/internal/access/JavaLangAccess"), accessFlags := 26, slot := 19, constantValue := 0 }, { name := "SOFT_MAX_ARRAY_LENGTH", type := .int, accessFlags := 25, slot := 20, constantValue := 0 }]
  methods := #[k22m0]
  instanceTypes := #[]
  staticTypes := #[(.object "jdk/internal/misc/Unsafe"), .boolean, .int, .int, .int, .int, .int, .int, .int, .int, .int, .int, .int, .int, .int, .int, .int, .int, .int, (.object "jdk/internal/access/JavaLangAccess"), .int]
  resolved := Array.replicate 378 none
  statics := none }

/-- the primitive byte -/
def k23 : Class := { plain "byte" none with kind := .primitive 'B', accessFlags := 0x411 }
/-- [B -/
def k24 : Class := { plain "[B" (some 0) with kind := .array 23 .byte, interfaces := #[19, 4], accessFlags := 1041 }

/-- the primitive int -/
def k25 : Class := { plain "int" none with kind := .primitive 'I', accessFlags := 0x411 }
/-- [I -/
def k26 : Class := { plain "[I" (some 0) with kind := .array 25 .int, interfaces := #[19, 4], accessFlags := 1041 }

def heap : Heap := #[{ cls := 9, slots := #[.long 0, .int 1, .null, .int 0, .null, .int 0, .int 0], vm := .statics 9 },
  { cls := 21, slots := #[.null, .null, .null], vm := .statics 21 }]
def classes : Array Class := #[k0, k1, k2, k3, k4, k5, k6, k7, k8, k9, k10, k11, k12, k13, k14, k15, k16, k17, k18, k19, k20, k21, k22, k23, k24, k25, k26]
def interned : List (Array UInt16 × Addr) := []
def slotsUsed : Nat := 10
def theMethod : MethodId := ⟨1, 1⟩
def args0 : Array Value := #[.int 5, .int 7, .long 9, .int 65]
def aboutOver (below : List Frame) : State where
  vm := { classes := classes, interned := interned.toArray }
  heap := heap
  slotsUsed := slotsUsed
  threads := #[{ frames := .invoking theMethod args0 :: below }]
def below0 : List Frame := [.native { method := ⟨0, 0⟩, args := #[] }]
def about1 : State := aboutOver below0
def p0 : Program := .bare "" "" ""
def e0 : Env := launch0.env 0 0 0
theorem w_frames : about1.frames = Frame.invoking theMethod args0 :: below0 := rfl
set_option maxRecDepth 65536 in
theorem w_args : argsFit about1.vm theMethod args0 = true := by decide +kernel
set_option maxRecDepth 65536 in
theorem w_heap : heapFits about1 = true := by decide +kernel
set_option maxRecDepth 65536 in
theorem w_runnable : about1.curStatus? = some .runnable := by decide +kernel
set_option maxRecDepth 65536 in
theorem w_alone : about1.alone = true := by decide +kernel
set_option maxRecDepth 65536 in
theorem w_named : about1.methodNamed? x = some theMethod := by decide +kernel
set_option maxRecDepth 65536 in
theorem w_hears : about1.hears theMethod below0 = true := by decide +kernel
set_option maxRecDepth 65536 in
theorem w_ripe : about1.ripe theMethod args0 below0 = true := by decide +kernel
theorem w_running : about1.status = .running := rfl
set_option maxRecDepth 65536 in
theorem w_room : about1.hasRoom e0.platform room_1 = true :=
  launch0.hasRoom_least _ room_1 (by decide +kernel) (by decide +kernel) (by decide +kernel) (by decide +kernel) (by decide +kernel) (by decide +kernel)
theorem allAtoms_all (ts : List Jvm.Cond) (a : Array Jvm.Value) (st : Jvm.State) : (allAtoms ts).before a st = ts.all (fun c => c.before a st) := by
  induction ts with
  | nil => rfl
  | cons c t ih =>
    show (Jvm.Cond.and c (allAtoms t)).before a st = _
    rw [Jvm.Cond.before_and, ih, List.all_cons]
def words1 : List Jvm.Cond := Jvm.Cond.code x code maxLocals ret :: tables_1
/-- a 'code' word, met by the world's own term for the bytes: nothing is compared byte by byte -/
theorem code_word {y : MethodName} {bytes : ByteArray} {mx : Nat} {rt : Option FieldType} {a : Array Value} {s : State} {m : MethodId} {meth : Method} {c : Code} (h1 : s.methodNamed? y = some m) (h2 : s.vm.method? m = some meth) (h3 : meth.code = some c) (h4 : c.code = bytes)
    (h5 : (c.maxLocals == mx && c.exceptionTable.isEmpty && decide (c.maxStack ≤ mostOperands) && decide (meth.sig.returnType = rt) && !meth.locks && decide (parseMethodDescriptor y.desc = some meth.sig)) = true) : (Jvm.Cond.code y bytes mx rt).before a s = true := by
  simp only [Bool.and_eq_true, beq_iff_eq, Bool.not_eq_true', decide_eq_true_eq] at h5
  obtain ⟨⟨⟨⟨⟨g1, g2⟩, g3⟩, g4⟩, g5⟩, g6⟩ := h5
  simp [Cond.before, Cond.holds, Cond.value, h1, h2, h3, h4, g1, g2, g3, g4, g5, g6]
def isCode : Jvm.Cond → Bool
  | .code _ _ _ _ => true
  | _ => false
theorem all_split {L : List Jvm.Cond} {P : Jvm.Cond → Bool} (h1 : L.all (fun c => isCode c || P c) = true) (h2 : ∀ c ∈ L.filter isCode, P c = true) : L.all P = true := by
  refine List.all_eq_true.mpr fun c hc => ?_
  have h := List.all_eq_true.mp h1 c hc
  rcases Bool.eq_false_or_eq_true (isCode c) with hi | hi
  · exact h2 c (List.mem_filter.mpr ⟨hc, hi⟩)
  · simpa [hi] using h
set_option maxRecDepth 65536 in
theorem w_c0 : (Jvm.Cond.code x code maxLocals ret).before args0 about1 = true := code_word (m := ⟨1, 1⟩) (meth := k1m1) (c := k1c1) (by decide +kernel) rfl rfl rfl (by decide +kernel)
set_option maxRecDepth 65536 in
theorem w_c1 : (Jvm.Cond.code ({ cls := "java/lang/String", name := "valueOf", desc := "(C)Ljava/lang/String;" } : Jvm.MethodName) jdk_42_method_139_code (1 : Nat) (Option.some (Jvm.ClassFile.FieldType.object "java/lang/String"))).before args0 about1 = true := code_word (m := ⟨9, 1⟩) (meth := k9m1) (c := k9c1) (by decide +kernel) rfl rfl rfl (by decide +kernel)
set_option maxRecDepth 65536 in
theorem w_c2 : (Jvm.Cond.code ({ cls := "java/lang/StringLatin1", name := "canEncode", desc := "(C)Z" } : Jvm.MethodName) jdk_43_method_3_code (1 : Nat) (Option.some Jvm.ClassFile.FieldType.boolean)).before args0 about1 = true := code_word (m := ⟨10, 1⟩) (meth := k10m1) (c := k10c1) (by decide +kernel) rfl rfl rfl (by decide +kernel)
set_option maxRecDepth 65536 in
theorem w_c3 : (Jvm.Cond.code ({ cls := "java/lang/StringLatin1", name := "toBytes", desc := "(C)[B" } : Jvm.MethodName) jdk_43_method_46_code (1 : Nat) (Option.some (Jvm.ClassFile.FieldType.array Jvm.ClassFile.FieldType.byte))).before args0 about1 = true := code_word (m := ⟨10, 2⟩) (meth := k10m2) (c := k10c2) (by decide +kernel) rfl rfl rfl (by decide +kernel)
set_option maxRecDepth 65536 in
theorem w_c4 : (Jvm.Cond.code ({ cls := "java/lang/String", name := "<init>", desc := "([BB)V" } : Jvm.MethodName) jdk_42_method_151_code (3 : Nat) (Option.none : Option Jvm.ClassFile.FieldType)).before args0 about1 = true := code_word (m := ⟨9, 2⟩) (meth := k9m2) (c := k9c2) (by decide +kernel) rfl rfl rfl (by decide +kernel)
set_option maxRecDepth 65536 in
theorem w_c5 : (Jvm.Cond.code ({ cls := "java/lang/Object", name := "<init>", desc := "()V" } : Jvm.MethodName) object_method_1_code (1 : Nat) (Option.none : Option Jvm.ClassFile.FieldType)).before args0 about1 = true := code_word (m := ⟨0, 0⟩) (meth := k0m0) (c := k0c0) (by decide +kernel) rfl rfl rfl (by decide +kernel)
set_option maxRecDepth 65536 in
theorem w_c6 : (Jvm.Cond.code ({ cls := "com/example/xixi/xixi/consumer/TopicQueue", name := "<init>", desc := "(Ljava/lang/String;I)V" } : Jvm.MethodName) prog_21_method_1_code (3 : Nat) (Option.none : Option Jvm.ClassFile.FieldType)).before args0 about1 = true := code_word (m := ⟨3, 0⟩) (meth := k3m0) (c := k3c0) (by decide +kernel) rfl rfl rfl (by decide +kernel)
set_option maxRecDepth 65536 in
theorem w_c7 : (Jvm.Cond.code ({ cls := "java/lang/Record", name := "<init>", desc := "()V" } : Jvm.MethodName) jdk_30_method_1_code (1 : Nat) (Option.none : Option Jvm.ClassFile.FieldType)).before args0 about1 = true := code_word (m := ⟨2, 0⟩) (meth := k2m0) (c := k2c0) (by decide +kernel) rfl rfl rfl (by decide +kernel)
set_option maxRecDepth 65536 in
theorem w_c8 : (Jvm.Cond.code ({ cls := "com/example/xixi/xixi/consumer/PullRequest", name := "<init>", desc := "(Lcom/example/xixi/xixi/consumer/TopicQueue;J)V" } : Jvm.MethodName) prog_18_method_1_code (4 : Nat) (Option.none : Option Jvm.ClassFile.FieldType)).before args0 about1 = true := code_word (m := ⟨11, 0⟩) (meth := k11m0) (c := k11c0) (by decide +kernel) rfl rfl rfl (by decide +kernel)
set_option maxRecDepth 65536 in
theorem w_c9 : (Jvm.Cond.code ({ cls := "java/util/concurrent/atomic/AtomicBoolean", name := "<init>", desc := "()V" } : Jvm.MethodName) jdk_2802_method_2_code (1 : Nat) (Option.none : Option Jvm.ClassFile.FieldType)).before args0 about1 = true := code_word (m := ⟨12, 0⟩) (meth := k12m0) (c := k12c0) (by decide +kernel) rfl rfl rfl (by decide +kernel)
set_option maxRecDepth 65536 in
theorem w_c10 : (Jvm.Cond.code ({ cls := "com/example/xixi/xixi/consumer/QueueCache", name := "<init>", desc := "(J)V" } : Jvm.MethodName) prog_20_method_1_code (3 : Nat) (Option.none : Option Jvm.ClassFile.FieldType)).before args0 about1 = true := code_word (m := ⟨13, 0⟩) (meth := k13m0) (c := k13c0) (by decide +kernel) rfl rfl rfl (by decide +kernel)
set_option maxRecDepth 65536 in
theorem w_c11 : (Jvm.Cond.code ({ cls := "java/util/TreeMap", name := "<init>", desc := "()V" } : Jvm.MethodName) jdk_2729_method_1_code (1 : Nat) (Option.none : Option Jvm.ClassFile.FieldType)).before args0 about1 = true := code_word (m := ⟨20, 0⟩) (meth := k20m0) (c := k20c0) (by decide +kernel) rfl rfl rfl (by decide +kernel)
set_option maxRecDepth 65536 in
theorem w_c12 : (Jvm.Cond.code ({ cls := "java/util/AbstractMap", name := "<init>", desc := "()V" } : Jvm.MethodName) jdk_71_method_1_code (1 : Nat) (Option.none : Option Jvm.ClassFile.FieldType)).before args0 about1 = true := code_word (m := ⟨15, 0⟩) (meth := k15m0) (c := k15c0) (by decide +kernel) rfl rfl rfl (by decide +kernel)
set_option maxRecDepth 65536 in
theorem w_c13 : (Jvm.Cond.code ({ cls := "com/example/xixi/xixi/consumer/PullRequest", name := "holdBack", desc := "(Z)Z" } : Jvm.MethodName) prog_18_method_7_code (3 : Nat) (Option.some Jvm.ClassFile.FieldType.boolean)).before args0 about1 = true := code_word (m := ⟨11, 1⟩) (meth := k11m1) (c := k11c1) (by decide +kernel) rfl rfl rfl (by decide +kernel)
def codes1 : List Jvm.Cond := [Jvm.Cond.code x code maxLocals ret, Jvm.Cond.code ({ cls := "java/lang/String", name := "valueOf", desc := "(C)Ljava/lang/String;" } : Jvm.MethodName) jdk_42_method_139_code (1 : Nat) (Option.some (Jvm.ClassFile.FieldType.object "java/lang/String")), Jvm.Cond.code ({ cls := "java/lang/StringLatin1", name := "canEncode", desc := "(C)Z" } : Jvm.MethodName) jdk_43_method_3_code (1 : Nat) (Option.some Jvm.ClassFile.FieldType.boolean), Jvm.Cond.code ({ cls := "java/lang/StringLatin1", name := "toBytes", desc := "(C)[B" } : Jvm.MethodName) jdk_43_method_46_code (1 : Nat) (Option.some (Jvm.ClassFile.FieldType.array Jvm.ClassFile.FieldType.byte)), Jvm.Cond.code ({ cls := "java/lang/String", name := "<init>", desc := "([BB)V" } : Jvm.MethodName) jdk_42_method_151_code (3 : Nat) (Option.none : Option Jvm.ClassFile.FieldType), Jvm.Cond.code ({ cls := "java/lang/Object", name := "<init>", desc := "()V" } : Jvm.MethodName) object_method_1_code (1 : Nat) (Option.none : Option Jvm.ClassFile.FieldType), Jvm.Cond.code ({ cls := "com/example/xixi/xixi/consumer/TopicQueue", name := "<init>", desc := "(Ljava/lang/String;I)V" } : Jvm.MethodName) prog_21_method_1_code (3 : Nat) (Option.none : Option Jvm.ClassFile.FieldType), Jvm.Cond.code ({ cls := "java/lang/Record", name := "<init>", desc := "()V" } : Jvm.MethodName) jdk_30_method_1_code (1 : Nat) (Option.none : Option Jvm.ClassFile.FieldType), Jvm.Cond.code ({ cls := "com/example/xixi/xixi/consumer/PullRequest", name := "<init>", desc := "(Lcom/example/xixi/xixi/consumer/TopicQueue;J)V" } : Jvm.MethodName) prog_18_method_1_code (4 : Nat) (Option.none : Option Jvm.ClassFile.FieldType), Jvm.Cond.code ({ cls := "java/util/concurrent/atomic/AtomicBoolean", name := "<init>", desc := "()V" } : Jvm.MethodName) jdk_2802_method_2_code (1 : Nat) (Option.none : Option Jvm.ClassFile.FieldType), Jvm.Cond.code ({ cls := "com/example/xixi/xixi/consumer/QueueCache", name := "<init>", desc := "(J)V" } : Jvm.MethodName) prog_20_method_1_code (3 : Nat) (Option.none : Option Jvm.ClassFile.FieldType), Jvm.Cond.code ({ cls := "java/util/TreeMap", name := "<init>", desc := "()V" } : Jvm.MethodName) jdk_2729_method_1_code (1 : Nat) (Option.none : Option Jvm.ClassFile.FieldType), Jvm.Cond.code ({ cls := "java/util/AbstractMap", name := "<init>", desc := "()V" } : Jvm.MethodName) jdk_71_method_1_code (1 : Nat) (Option.none : Option Jvm.ClassFile.FieldType), Jvm.Cond.code ({ cls := "com/example/xixi/xixi/consumer/PullRequest", name := "holdBack", desc := "(Z)Z" } : Jvm.MethodName) prog_18_method_7_code (3 : Nat) (Option.some Jvm.ClassFile.FieldType.boolean)]
set_option maxRecDepth 65536 in
theorem codes_eq : words1.filter isCode = codes1 := rfl
theorem w_codes : ∀ c ∈ words1.filter isCode, c.before args0 about1 = true := by
  rw [codes_eq]
  intro c hc
  simp only [codes1, List.mem_cons, List.not_mem_nil, or_false] at hc
  rcases hc with rfl | rfl | rfl | rfl | rfl | rfl | rfl | rfl | rfl | rfl | rfl | rfl | rfl | rfl
  · exact w_c0
  · exact w_c1
  · exact w_c2
  · exact w_c3
  · exact w_c4
  · exact w_c5
  · exact w_c6
  · exact w_c7
  · exact w_c8
  · exact w_c9
  · exact w_c10
  · exact w_c11
  · exact w_c12
  · exact w_c13
set_option maxRecDepth 65536 in
theorem w_t1 : (words1.take 24).all (fun c => isCode c || c.before args0 about1) = true := by decide +kernel
set_option maxRecDepth 65536 in
theorem w_t2 : ((words1.drop 24).take 24).all (fun c => isCode c || c.before args0 about1) = true := by decide +kernel
set_option maxRecDepth 65536 in
theorem w_t3 : (((words1.drop 24).drop 24).take 24).all (fun c => isCode c || c.before args0 about1) = true := by decide +kernel
set_option maxRecDepth 65536 in
theorem w_t4 : ((((words1.drop 24).drop 24).drop 24).take 24).all (fun c => isCode c || c.before args0 about1) = true := by decide +kernel
set_option maxRecDepth 65536 in
theorem w_t5 : ((((words1.drop 24).drop 24).drop 24).drop 24).all (fun c => isCode c || c.before args0 about1) = true := by decide +kernel
theorem w_tables : (allAtoms (Jvm.Cond.code x code maxLocals ret :: tables_1)).before args0 about1 = true := by
  rw [allAtoms_all]
  show words1.all (fun c => c.before args0 about1) = true
  refine all_split ?_ w_codes
  rw [← List.take_append_drop 24 words1, List.all_append, w_t1, ← List.take_append_drop 24 (words1.drop 24), List.all_append, w_t2, ← List.take_append_drop 24 ((words1.drop 24).drop 24), List.all_append, w_t3, ← List.take_append_drop 24 (((words1.drop 24).drop 24).drop 24), List.all_append, w_t4, w_t5]
  rfl
set_option maxRecDepth 65536 in
theorem w_rest : rest_1_c.before args0 about1 = true := by decide +kernel
set_option maxRecDepth 65536 in
theorem w_case : (Jvm.Cond.and given_1 narrow_1).before args0 about1 = true := by decide +kernel
theorem w_applies : (headSpec (Jvm.Cond.code x code maxLocals ret :: tables_1) room_1).applies x e0.platform about1 = true :=
  (Spec.applies_iff w_frames).mpr ⟨w_running, w_runnable, w_alone, w_named, w_hears, w_ripe, w_room, w_tables⟩
theorem atStart : AtStart classFile x code maxLocals ret World_1 tables_1 room_1 Calls_1 rest_1 Pre_1 launch0 p0 e0 about1 theMethod args0 below0 :=
  ⟨lists_1, trivial, launch0.admits_env _ _ _, launch0.least_env, fairChoices_fair.cas, fairChoices_fair.clock, w_frames, w_args, w_heap, w_applies, trivial, w_rest, w_case⟩
end start1
theorem witness_1 : WitnessClaimed_1 := ⟨start1.p0, start1.e0, start1.about1, start1.theMethod, start1.args0, start1.below0, start1.atStart⟩
end Jvm.Pilot.@@N@@
