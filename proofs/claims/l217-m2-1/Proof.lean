import JvmDerived
import JvmDerived.Pilot.@@N@@Statement
import JvmDerived.Pilot.@@N@@Code
set_option linter.unusedVariables false
set_option linter.unusedSimpArgs false
namespace Jvm.RoadKit
open Sem ClassFile Op Lib Jvm.Stand Jvm.Free Jvm.LawKit
section New
variable {p : Program} {l : Launch} {e : Env} {R : Room} {s : State} {m : MethodId} {args : Array Value} {below : List Frame} {meth : Method} {c : Code} {T : State} {locs : List Loc} {cells slots : Nat}
theorem retI (X : Stand p l e R s m args below meth c T locs cells slots) (hx : p.tables.exec = Jvm.exec) {pc : Nat} {Ls : Array Slot} {z : Int32} {rest : List Value} (hret : meth.sig.returnType = some .int) (hd : decode c.code pc = .ok (.ireturn, 1)) {fs : List Frame}
    (hl : ∀ (f : JFrame) (acts : List Action), f.method = m → f.locked = none → f.entered = [] → (doReturn e (T.setTop f) acts (some (.int z))).1 = T.setFrames fs) : Steps p.tables e below (T.setTop (mkF m pc Ls (.int z :: rest))) (T.setFrames fs) := by
  have hm' : T.vm.method? m = some meth := X.method'
  have hn : narrow .int (.int z) = .int z := rfl
  show Steps p.tables e below (T.setTop { method := m, pc := pc, locals := Ls, stack := _ :: rest, locked := none }) _
  jvm_step X.here [X.here.top, hx, hd, hm', hret, hn]
  first | (intro acts; rw [hl _ acts rfl rfl rfl]) | rw [hl _ _ rfl rfl rfl]
  exact Steps.refl _
end New
end Jvm.RoadKit
namespace Jvm.Pilot.@@N@@
open Jvm Jvm.ClassFile Sem Op Lib Jvm.Free Jvm.Stand Jvm.LawKit Jvm.RoadKit Bundle Jvm.Pilot.@@N@@.Jvm.D
/-! the goals of a walk, and what closes them -/
def OEnd (p : Program) (e : Env) (below : List Frame) (s T : State) (g : JFrame) (Q : Option Value → Heap → List Loc → Prop) (kc ks : Nat) : Prop :=
  ∃ s₂ o, Steps p.tables e below (T.setTop g) s₂ ∧ s₂.status = .running ∧ Ended s₂ below o ∧ ∃ v L, o = .returned v ∧ Q v s₂.heap L ∧ FrameEnd s o s₂ L kc ks
def ORch (p : Program) (l : Launch) (e : Env) (R : Room) (s : State) (m : MethodId) (args : Array Value) (below : List Frame) (meth : Method) (c : Code) (n0 : Nat) (T : State) (g : JFrame) (h : Heap) (g' : JFrame) (cells slots : Nat) : Prop :=
  ∃ T' locs', Stand p l e R s m args below meth c T' locs' cells slots ∧ T'.heap = h ∧ Fr n0 locs' ∧ Goes p e below T g T' g'
def OArr (Z : State) (h : Heap) (a : Addr) (ty : FieldType) (n : Int32) (vs : List Value) (d : Value) : Prop := ∃ k, Arv Z h a k ty n vs d
def ORchH (p : Program) (l : Launch) (e : Env) (R : Room) (s : State) (m : MethodId) (args : Array Value) (below : List Frame) (meth : Method) (c : Code) (n0 : Nat) (T : State) (g : JFrame) (g' : JFrame) (cells slots : Nat) (P : Heap → Prop) : Prop :=
  ∃ T' h' locs', Stand p l e R s m args below meth c T' locs' cells slots ∧ T'.heap = h' ∧ Fr n0 locs' ∧ P h' ∧ Goes p e below T g T' g'
def ORchB (p : Program) (l : Launch) (e : Env) (R : Room) (s : State) (m : MethodId) (args : Array Value) (below : List Frame) (meth : Method) (c : Code) (n0 : Nat) (T : State) (g : JFrame) (g' : Addr → JFrame) (cells slots : Nat) (P : Heap → Addr → Prop) : Prop :=
  ∃ b T' h' locs', Stand p l e R s m args below meth c T' locs' cells slots ∧ T'.heap = h' ∧ Fr n0 locs' ∧ P h' b ∧ Goes p e below T g T' (g' b)
section Own
variable {p : Program} {l : Launch} {e : Env} {R : Room} {s : State} {m : MethodId} {args : Array Value} {below : List Frame} {meth : Method} {c : Code} {T T' : State} {locs : List Loc} {cells slots : Nat} {g g' g'' : JFrame} {Q : Option Value → Heap → List Loc → Prop} {kc ks : Nat}
theorem OEnd.go (k : Goes p e below T g T' g') (h : OEnd p e below s T' g' Q kc ks) : OEnd p e below s T g Q kc ks := by
  obtain ⟨s₂, o, h1, h2⟩ := h
  exact ⟨s₂, o, k _ h1, h2⟩
theorem ORch.go {n0 : Nat} {h : Heap} (k : Goes p e below T g T' g') (q : ORch p l e R s m args below meth c n0 T' g' h g'' cells slots) : ORch p l e R s m args below meth c n0 T g h g'' cells slots := by
  obtain ⟨T2, L2, h1, h2, h3, h4⟩ := q
  exact ⟨T2, L2, h1, h2, h3, fun t kt => k _ (h4 t kt)⟩
theorem ORchH.go {n0 : Nat} {P : Heap → Prop} (k : Goes p e below T g T' g') (q : ORchH p l e R s m args below meth c n0 T' g' g'' cells slots P) : ORchH p l e R s m args below meth c n0 T g g'' cells slots P := by
  obtain ⟨T2, h2, L2, h1, h2, h3, h4, h5⟩ := q
  exact ⟨T2, _, L2, h1, h2, h3, h4, fun t kt => k _ (h5 t kt)⟩
theorem ORchB.go {n0 : Nat} {P : Heap → Addr → Prop} {gb : Addr → JFrame} (k : Goes p e below T g T' g') (q : ORchB p l e R s m args below meth c n0 T' g' gb cells slots P) : ORchB p l e R s m args below meth c n0 T g gb cells slots P := by
  obtain ⟨b, T2, h2, L2, h1, h2, h3, h4, h5⟩ := q
  exact ⟨b, T2, _, L2, h1, h2, h3, h4, fun t kt => k _ (h5 t kt)⟩
theorem SGo.go {t : State} (k : Goes p e below T g T' g') (h : Steps p.tables e below (T'.setTop g') t) : Steps p.tables e below (T.setTop g) t := k _ h
theorem own_k {A : Type} {tb : Tables} {f : A → JFrame} {a b : A} {t : State} (q : a = b) (k : Steps tb e below (T.setTop (f a)) t) : Steps tb e below (T.setTop (f b)) t := q ▸ k
theorem own_symm {A : Type} {a b : A} (h : a = b) : b = a := h.symm
theorem own_via {A : Type} {a b c : A} (h : a = b) (k : a = c) : b = c := h.symm.trans k
theorem own_p {A : Type} {P : A → Prop} {a b : A} (q : a = b) (w : P a) : P b := q ▸ w
theorem own_at {h : Heap} {U : Heap} (q : U = h) {P : Heap → Prop} (w : P h) : P U := q ▸ w
theorem OArr.lt {Z : State} {h : Heap} {a : Addr} {ty : FieldType} {n : Int32} {vs : List Value} {d : Value} (F : OArr Z h a ty n vs d) : a < h.size := by obtain ⟨k, V⟩ := F; exact V.lt
theorem OArr.ext {Z : State} {h h' : Heap} {a : Addr} {ty : FieldType} {n : Int32} {vs : List Value} {d : Value} (F : OArr Z h a ty n vs d) (E : Ext h h') : OArr Z h' a ty n vs d := by obtain ⟨k, V⟩ := F; exact ⟨k, V.ext E⟩
theorem OArr.other {Z : State} {h h' : Heap} {a b : Addr} {ty : FieldType} {n : Int32} {vs : List Value} {d v : Value} {sl : Nat} (F : OArr Z h b ty n vs d) (W : Wr h h' a sl v) (q : b ≠ a) : OArr Z h' b ty n vs d := by obtain ⟨k, V⟩ := F; exact ⟨k, V.other W q⟩
theorem OArr.keep {Z : State} {h h' : Heap} {a : Addr} {ty : FieldType} {n : Int32} {vs : List Value} {d : Value} {ws : List Addr} (F : OArr Z h a ty n vs d) (K : Keep h h' ws) (q : a ∉ ws) : OArr Z h' a ty n vs d := by obtain ⟨k, V⟩ := F; exact ⟨k, V.keep K q⟩
theorem OEnd.int (X : Stand p l e R s m args below meth c T locs cells slots) (hx : p.tables.exec = Jvm.exec) {pc : Nat} {Ls : Array Slot} {z : Int32} {rest : List Value} (hret : meth.sig.returnType = some .int) (hlk : meth.locks = false) (hd : decode c.code pc = .ok (.ireturn, 1)) (hq : Q (some (.int z)) T.heap locs) (hc : cells ≤ kc) (hs : slots ≤ ks) :
    OEnd p e below s T (mkF m pc Ls (.int z :: rest)) Q kc ks := by
  obtain ⟨fs, hr, hrun, hended, hW, hsame⟩ := X.leave (v := some (.int z)) (fun h => by rw [hret] at h; cases h) hlk
  exact ⟨_, _, retI X hx hret hd hr, hrun, hended, _, _, rfl, hq, ⟨_, rfl⟩, hW, hsame.mono hc hs⟩
theorem OEnd.nar (X : Stand p l e R s m args below meth c T locs cells slots) (hx : p.tables.exec = Jvm.exec) {pc : Nat} {Ls : Array Slot} {z : Int32} {rest : List Value} {t : FieldType} (hret : meth.sig.returnType = some t) (ht : t = .boolean ∨ t = .byte ∨ t = .char ∨ t = .short) (hlk : meth.locks = false) (hd : decode c.code pc = .ok (.ireturn, 1)) (hq : Q (some (.int (nar t z))) T.heap locs) (hc : cells ≤ kc) (hs : slots ≤ ks) :
    OEnd p e below s T (mkF m pc Ls (.int z :: rest)) Q kc ks := by
  obtain ⟨fs, hr, hrun, hended, hW, hsame⟩ := X.leave (v := some (.int (RoadKit.nar t z))) (fun h => by rw [hret] at h; cases h) hlk
  exact ⟨_, _, retN X hx hret ht hd hr, hrun, hended, _, _, rfl, hq, ⟨_, rfl⟩, hW, hsame.mono hc hs⟩
theorem OEnd.long (X : Stand p l e R s m args below meth c T locs cells slots) (hx : p.tables.exec = Jvm.exec) {pc : Nat} {Ls : Array Slot} {z : Int64} (hret : meth.sig.returnType = some .long) (hlk : meth.locks = false) (hd : decode c.code pc = .ok (.lreturn, 1)) (hq : Q (some (.long z)) T.heap locs) (hc : cells ≤ kc) (hs : slots ≤ ks) :
    OEnd p e below s T (mkF m pc Ls [.long z]) Q kc ks := by
  obtain ⟨fs, hr, hrun, hended, hW, hsame⟩ := X.leave (v := some (.long z)) (fun h => by rw [hret] at h; cases h) hlk
  exact ⟨_, _, X.lreturnOut hx hret hd hr, hrun, hended, _, _, rfl, hq, ⟨_, rfl⟩, hW, hsame.mono hc hs⟩
theorem OEnd.void (X : Stand p l e R s m args below meth c T locs cells slots) (hx : p.tables.exec = Jvm.exec) {pc : Nat} {Ls : Array Slot} (hret : meth.sig.returnType = none) (hlk : meth.locks = false) (hd : decode c.code pc = .ok (.return_, 1)) (hq : Q none T.heap locs) (hc : cells ≤ kc) (hs : slots ≤ ks) :
    OEnd p e below s T (mkF m pc Ls []) Q kc ks := by
  obtain ⟨fs, hr, hrun, hended, hW, hsame⟩ := X.leave (v := none) (fun _ => rfl) hlk
  exact ⟨_, _, X.returnOut hx hret hd hr, hrun, hended, _, _, rfl, hq, ⟨_, rfl⟩, hW, hsame.mono hc hs⟩
end Own
theorem d2_0 : decode jdk_30_method_1_code 0 = .ok (.aload_n 0, 1) := by decide +kernel
theorem d2_1 : decode jdk_30_method_1_code 1 = .ok (.invokespecial 1, 3) := by decide +kernel
theorem d2_4 : decode jdk_30_method_1_code 4 = .ok (.return_, 1) := by decide +kernel
theorem pn_java_lang_Record : plainName "java/lang/Record" = true := by first | (simp [plainName, overriddenIn]; done) | decide +kernel
theorem ef_2 (m : MethodId) (x0 : Addr) : entryFrame m #[(.ref x0)] 1 = mkF m 0 #[.val (.ref x0)] [] := by first | (simp [entryFrame, mkF, argsToLocals, Value.category]; done) | rfl
def Q2 (Z : State) (a0 : Addr) (h0 : Heap) (n0 : Nat) (v : Option Value) (h : Heap) (L : List Loc) : Prop := v = none ∧ Fr n0 L ∧ h = h0
set_option maxRecDepth 65536 in
set_option maxHeartbeats 40000000 in
theorem rm2 (l : Launch) (Z : State) (aZ : Array Value) (hw : ∀ d ∈ tables_1, d.before aZ Z = true) (ws : List Jvm.Cond) (a0 : Addr) (h0 : Heap) (n0 : Nat) (Z0 : n0 ≤ h0.size) :
    MetFree l (⟨"java/lang/Record", "<init>", "()V"⟩ : MethodName) (head1 (Jvm.Cond.code (⟨"java/lang/Record", "<init>", "()V"⟩ : MethodName) jdk_30_method_1_code 1 none :: ws) ({ frames := 1, cells := 0, slots := 0, locals := 12 } : Room)) (fun a U => a = #[(.ref a0)] ∧ Z.Warmed39 U.vm ∧ U.heap = h0) (fun _ _ _ _ _ => True) (fun _ U o U' => ∃ v L, o = .returned v ∧ Q2 Z a0 h0 n0 v U'.heap L ∧ FrameEnd U o U' L ({ frames := 1, cells := 0, slots := 0, locals := 12 } : Room).cells ({ frames := 1, cells := 0, slots := 0, locals := 12 } : Room).slots) := by
  refine MetFree.of_bodySF (plainFor_of_name pn_java_lang_Record) hisR ?_
  intro p e s m args below meth c s₁ Bd hml0 hP hK
  obtain ⟨rfl, hZ, hh⟩ := hP
  have hx := Bd.exec
  have hby := Bd.bytes
  have hlk : meth.locks = false := BodyLoose.notSynchronized Bd
  have hml : c.maxLocals = 1 := hml0
  have hown : s.vm.findClass "java/lang/Record" = some m.cls := findClass_of_methodNamed Bd.named
  have hnm := (name_of_methodNamed Bd.named Bd.method).1
  have X0 : Stand p l e ({ frames := 1, cells := 0, slots := 0, locals := 12 } : Room) s m #[(.ref a0)] below meth c s₁ [] 0 0 := Stand.of_body Bd
  have e0 : s₁.heap = h0 := by rw [← hh, Bd.state]; rfl
  have N0 := Fr.nil n0
  show OEnd p e below s s₁ (entryFrame m #[(.ref a0)] 1) (Q2 Z a0 h0 n0) ({ frames := 1, cells := 0, slots := 0, locals := 12 } : Room).cells ({ frames := 1, cells := 0, slots := 0, locals := 12 } : Room).slots
  refine OEnd.go (g' := (mkF m 0 #[.val (.ref a0)] [])) (fun _ k => castTop (ef_2 m a0) k) ?_
  refine OEnd.go (T' := s₁) (g' := (mkF m 1 #[.val (.ref a0)] [(.ref a0)])) (fun t k => ?_) ?_
  · show Steps p.tables e below (s₁.setTop (mkF m 0 #[.val (.ref a0)] [])) t
    refine XS.aloadN X0.here hx rfl (hb hby d2_0) rfl rfl ?_
    show Steps p.tables e below (s₁.setTop (mkF m 1 #[.val (.ref a0)] [(.ref a0)])) t
    exact k
  obtain ⟨T1, X1, e1, st1⟩ := initO X0 hx hZ hown (hw _ (List.mem_of_getElem? (i := 13) rfl)) (hw _ (List.mem_of_getElem? (i := 14) rfl)) (hw _ (List.mem_of_getElem? (i := 15) rfl)) e0 (g := (mkF m 1 #[.val (.ref a0)] [(.ref a0)])) rfl (by rw [hml]; rfl) rfl (hb hby d2_1) (by decide) (W := 0) (by show 2 * 0 + _ ≤ _; exact Nat.le_of_eq rfl) (by decide)
  refine OEnd.go (g' := (mkF m 4 #[.val (.ref a0)] [])) st1 ?_
  exact OEnd.void X1 hx Bd.returns hlk (hb hby d2_4) ⟨rfl, N0, e1⟩ (by decide) (by decide)
theorem d1_0 : decode prog_12_method_1_code 0 = .ok (.aload_n 0, 1) := by decide +kernel
theorem d1_1 : decode prog_12_method_1_code 1 = .ok (.invokespecial 3, 3) := by decide +kernel
theorem pd___V : parseMethodDescriptor "()V" = some ⟨[], none⟩ := by decide +kernel
theorem d1_4 : decode prog_12_method_1_code 4 = .ok (.iload_n 1, 1) := by decide +kernel
theorem d1_5 : decode prog_12_method_1_code 5 = .ok (.iconst 1, 1) := by decide +kernel
theorem d1_6 : decode prog_12_method_1_code 6 = .ok (.if_icmp .lt 10, 3) := by decide +kernel
theorem d1_9 : decode prog_12_method_1_code 9 = .ok (.iload_n 1, 1) := by decide +kernel
theorem d1_10 : decode prog_12_method_1_code 10 = .ok (.sipush 255, 3) := by decide +kernel
theorem d1_13 : decode prog_12_method_1_code 13 = .ok (.if_icmp .le 17, 3) := by decide +kernel
theorem d1_30 : decode prog_12_method_1_code 30 = .ok (.aload_n 0, 1) := by decide +kernel
theorem d1_31 : decode prog_12_method_1_code 31 = .ok (.iload_n 1, 1) := by decide +kernel
theorem d1_32 : decode prog_12_method_1_code 32 = .ok (.putfield 20, 3) := by decide +kernel
theorem d1_35 : decode prog_12_method_1_code 35 = .ok (.return_, 1) := by decide +kernel
theorem pn_com_example_lanternwire_lanternwire_protocol_SequenceWindow : plainName "com/example/lanternwire/lanternwire/protocol/SequenceWindow" = true := by first | (simp [plainName, overriddenIn]; done) | decide +kernel
theorem ef_1 (m : MethodId) (x0 : Addr) (x1 : Int32) : entryFrame m #[(.ref x0), (.int x1)] 2 = mkF m 0 #[.val (.ref x0), .val (.int x1)] [] := by first | (simp [entryFrame, mkF, argsToLocals, Value.category]; done) | rfl
def Q1 (Z : State) (a0 : Addr) (p1 : Int32) (h0 : Heap) (n0 : Nat) (v : Option Value) (h : Heap) (L : List Loc) : Prop := v = none ∧ Fr n0 L ∧ Keep h0 h [a0] ∧ Exa Z h a0 "com/example/lanternwire/lanternwire/protocol/SequenceWindow" ∧ Fld Z h a0 "com/example/lanternwire/lanternwire/protocol/SequenceWindow" "size" "I" (.int p1)
set_option maxRecDepth 65536 in
set_option maxHeartbeats 40000000 in
theorem rm1 (l : Launch) (Z : State) (aZ : Array Value) (hw : ∀ d ∈ tables_1, d.before aZ Z = true) (ws : List Jvm.Cond) (a0 : Addr) (p1 : Int32) (h0 : Heap) (n0 : Nat) (Z0 : n0 ≤ h0.size) (F0 : Fld Z h0 a0 "com/example/lanternwire/lanternwire/protocol/SequenceWindow" "size" "I" (.int (0 : Int32))) (E0 : Exa Z h0 a0 "com/example/lanternwire/lanternwire/protocol/SequenceWindow") (g0 : n0 ≤ a0) (hc6 : ¬ (p1 < (1 : Int32))) (hc13 : ¬ ((255 : Int32) < p1)) :
    MetFree l (⟨"com/example/lanternwire/lanternwire/protocol/SequenceWindow", "<init>", "(I)V"⟩ : MethodName) (head1 (Jvm.Cond.code (⟨"com/example/lanternwire/lanternwire/protocol/SequenceWindow", "<init>", "(I)V"⟩ : MethodName) prog_12_method_1_code 2 none :: ws) ({ frames := 2, cells := 0, slots := 0, locals := 24 } : Room)) (fun a U => a = #[(.ref a0), (.int p1)] ∧ Z.Warmed39 U.vm ∧ U.heap = h0) (fun _ _ _ _ _ => True) (fun _ U o U' => ∃ v L, o = .returned v ∧ Q1 Z a0 p1 h0 n0 v U'.heap L ∧ FrameEnd U o U' L ({ frames := 2, cells := 0, slots := 0, locals := 24 } : Room).cells ({ frames := 2, cells := 0, slots := 0, locals := 24 } : Room).slots) := by
  refine MetFree.of_bodySF (plainFor_of_name pn_com_example_lanternwire_lanternwire_protocol_SequenceWindow) hisR ?_
  intro p e s m args below meth c s₁ Bd hml0 hP hK
  obtain ⟨rfl, hZ, hh⟩ := hP
  have hx := Bd.exec
  have hby := Bd.bytes
  have hlk : meth.locks = false := BodyLoose.notSynchronized Bd
  have hml : c.maxLocals = 2 := hml0
  have hown : s.vm.findClass "com/example/lanternwire/lanternwire/protocol/SequenceWindow" = some m.cls := findClass_of_methodNamed Bd.named
  have hnm := (name_of_methodNamed Bd.named Bd.method).1
  have X0 : Stand p l e ({ frames := 2, cells := 0, slots := 0, locals := 24 } : Room) s m #[(.ref a0), (.int p1)] below meth c s₁ [] 0 0 := Stand.of_body Bd
  have e0 : s₁.heap = h0 := by rw [← hh, Bd.state]; rfl
  have N0 := Fr.nil n0
  have K0 : Keep h0 h0 [a0] := Keep.refl _ _
  show OEnd p e below s s₁ (entryFrame m #[(.ref a0), (.int p1)] 2) (Q1 Z a0 p1 h0 n0) ({ frames := 2, cells := 0, slots := 0, locals := 24 } : Room).cells ({ frames := 2, cells := 0, slots := 0, locals := 24 } : Room).slots
  refine OEnd.go (g' := (mkF m 0 #[.val (.ref a0), .val (.int p1)] [])) (fun _ k => castTop (ef_1 m a0 p1) k) ?_
  refine OEnd.go (T' := s₁) (g' := (mkF m 1 #[.val (.ref a0), .val (.int p1)] [(.ref a0)])) (fun t k => ?_) ?_
  · show Steps p.tables e below (s₁.setTop (mkF m 0 #[.val (.ref a0), .val (.int p1)] [])) t
    refine XS.aloadN X0.here hx rfl (hb hby d1_0) rfl rfl ?_
    show Steps p.tables e below (s₁.setTop (mkF m 1 #[.val (.ref a0), .val (.int p1)] [(.ref a0)])) t
    exact k
  obtain ⟨_, _, ⟨T1, L1, k1, n1⟩, -, X1, ⟨Lc1, hQ1, l1, y1, z1⟩, st1⟩ := X0.specialBack hx (y := (⟨"java/lang/Record", "<init>", "()V"⟩ : MethodName)) rfl hown (mvT hZ (hw _ (List.mem_of_getElem? (i := 8) rfl))) (mvT hZ (hw _ (List.mem_of_getElem? (i := 9) rfl))) (mvT hZ (hw _ (List.mem_of_getElem? (i := 12) rfl))) (by decide) (backOf (W := 0) (rm2 l Z aZ hw [] a0 h0 n0 Z0 ) hZ (hw _ (List.mem_of_getElem? (i := 12) rfl)) (hw _ (List.mem_of_getElem? (i := 11) rfl)) (by decide) (by decide)) (g := (mkF m 1 #[.val (.ref a0), .val (.int p1)] [(.ref a0)])) rfl (by rw [hml]; rfl) (Steps.refl _) (a := a0) (argsL := []) (rest := []) (lenOf pd___V rfl) rfl (by show 2 * 0 + _ ≤ _; exact Nat.le_of_eq rfl) (hb hby d1_1) (fun _ _ => ⟨rfl, e0, (by decide : 0 + 0 ≤ _), (by decide : 0 + 0 ≤ _)⟩)
  dsimp only [Pt.U, Pt.locs, Pt.cells, Pt.slots] at X1 l1 y1 z1 st1 hQ1
  subst l1 y1 z1
  obtain ⟨rfl, N1q, e1⟩ := hQ1
  have N1 := Fr.app N0 N1q
  refine OEnd.go (g' := (mkF m 4 #[.val (.ref a0), .val (.int p1)] [])) (fun _ k => st1.trans k) ?_
  refine OEnd.go (T' := T1) (g' := (mkF m 32 #[.val (.ref a0), .val (.int p1)] [(.int p1), (.ref a0)])) (fun t k => ?_) ?_
  · show Steps p.tables e below (T1.setTop (mkF m 4 #[.val (.ref a0), .val (.int p1)] [])) t
    refine XS.iloadN X1.here hx rfl (hb hby d1_4) rfl ?_
    show Steps p.tables e below (T1.setTop (mkF m 5 #[.val (.ref a0), .val (.int p1)] [(.int p1)])) t
    refine XS.iconst X1.here hx rfl (hb hby d1_5) ?_
    show Steps p.tables e below (T1.setTop (mkF m 6 #[.val (.ref a0), .val (.int p1)] [(.int (1 : Int32)), (.int p1)])) t
    refine XS.icmpNo X1.here hx rfl (hb hby d1_6) rfl (flt (hc6)).1 ?_
    show Steps p.tables e below (T1.setTop (mkF m 9 #[.val (.ref a0), .val (.int p1)] [])) t
    refine XS.iloadN X1.here hx rfl (hb hby d1_9) rfl ?_
    show Steps p.tables e below (T1.setTop (mkF m 10 #[.val (.ref a0), .val (.int p1)] [(.int p1)])) t
    refine XS.sipush X1.here hx rfl (hb hby d1_10) ?_
    show Steps p.tables e below (T1.setTop (mkF m 13 #[.val (.ref a0), .val (.int p1)] [(.int (255 : Int32)), (.int p1)])) t
    refine XS.icmpYes X1.here hx rfl (pc0 := 13) (pc' := 30) rfl (hb hby d1_13) rfl (flt (hc13)).2.2.2 (by decide) (by decide) ?_
    show Steps p.tables e below (T1.setTop (mkF m 30 #[.val (.ref a0), .val (.int p1)] [])) t
    refine XS.aloadN X1.here hx rfl (hb hby d1_30) rfl rfl ?_
    show Steps p.tables e below (T1.setTop (mkF m 31 #[.val (.ref a0), .val (.int p1)] [(.ref a0)])) t
    refine XS.iloadN X1.here hx rfl (hb hby d1_31) rfl ?_
    show Steps p.tables e below (T1.setTop (mkF m 32 #[.val (.ref a0), .val (.int p1)] [(.int p1), (.ref a0)])) t
    exact k
  obtain ⟨T2, h2, X2, e2, W2, st2⟩ := putF X1 hx hZ hown (host := "") (Or.inl (hw _ (List.mem_of_getElem? (i := 16) rfl))) Via.refl e1 F0 E0 (Or.inr ⟨(hw _ (List.mem_of_getElem? (i := 17) rfl)), rfl, hnm⟩) (hw _ (List.mem_of_getElem? (i := 3) rfl)) (ty := .int) (by decide) rfl rfl (g := (mkF m 32 #[.val (.ref a0), .val (.int p1)] [(.int p1), (.ref a0)])) rfl rfl (hb hby d1_32)
  have N2 := Fr.snoc X2 N1 g0
  have Z2 : n0 ≤ h2.size := Nat.le_trans Z0 (Keep.of_wr W2).1
  have K2 : Keep h0 h2 [a0] := K0.wr W2 (Or.inl (List.mem_of_getElem? (i := 0) rfl))
  have fc3 : Fld Z h2 a0 "com/example/lanternwire/lanternwire/protocol/SequenceWindow" "size" "I" (.int p1) := (F0.same W2)
  have fc4 : Exa Z h2 a0 "com/example/lanternwire/lanternwire/protocol/SequenceWindow" := (E0.wr W2)
  refine OEnd.go (g' := (mkF m 35 #[.val (.ref a0), .val (.int p1)] [])) st2 ?_
  exact OEnd.void X2 hx Bd.returns hlk (hb hby d1_35) ⟨rfl, N2, (own_at e2 (P := fun h => Keep h0 h [a0]) K2), (own_at e2 (P := fun h => Exa Z h a0 "com/example/lanternwire/lanternwire/protocol/SequenceWindow") fc4), (own_at e2 (P := fun h => Fld Z h a0 "com/example/lanternwire/lanternwire/protocol/SequenceWindow" "size" "I" (.int p1)) fc3)⟩ (by decide) (by decide)
theorem d7_0 : decode jdk_29_method_50_code 0 = .ok (.iload_n 0, 1) := by decide +kernel
theorem d7_1 : decode jdk_29_method_50_code 1 = .ok (.iload_n 1, 1) := by decide +kernel
theorem d7_2 : decode jdk_29_method_50_code 2 = .ok (.irem, 1) := by decide +kernel
theorem d7_3 : decode jdk_29_method_50_code 3 = .ok (.istore_n 2, 1) := by decide +kernel
theorem d7_4 : decode jdk_29_method_50_code 4 = .ok (.iload_n 0, 1) := by decide +kernel
theorem d7_5 : decode jdk_29_method_50_code 5 = .ok (.iload_n 1, 1) := by decide +kernel
theorem d7_6 : decode jdk_29_method_50_code 6 = .ok (.ixor, 1) := by decide +kernel
theorem d7_7 : decode jdk_29_method_50_code 7 = .ok (.ifCond .ge 11, 3) := by decide +kernel
theorem d7_10 : decode jdk_29_method_50_code 10 = .ok (.iload_n 2, 1) := by decide +kernel
theorem d7_11 : decode jdk_29_method_50_code 11 = .ok (.ifCond .eq 7, 3) := by decide +kernel
theorem d7_18 : decode jdk_29_method_50_code 18 = .ok (.iload_n 2, 1) := by decide +kernel
theorem d7_19 : decode jdk_29_method_50_code 19 = .ok (.ireturn, 1) := by decide +kernel
theorem d7_14 : decode jdk_29_method_50_code 14 = .ok (.iload_n 2, 1) := by decide +kernel
theorem d7_15 : decode jdk_29_method_50_code 15 = .ok (.iload_n 1, 1) := by decide +kernel
theorem d7_16 : decode jdk_29_method_50_code 16 = .ok (.iadd, 1) := by decide +kernel
theorem d7_17 : decode jdk_29_method_50_code 17 = .ok (.ireturn, 1) := by decide +kernel
def f7 (p0 : Int32) (p1 : Int32) : Int32 := (if (p0 ^^^ p1) < (0 : Int32) then (if (p0 - (p0 / p1) * p1) = (0 : Int32) then (p0 - (p0 / p1) * p1) else ((p0 - (p0 / p1) * p1) + p1)) else (p0 - (p0 / p1) * p1))
theorem ef_7 (m : MethodId) (x0 : Int32) (x1 : Int32) : entryFrame m #[(.int x0), (.int x1)] 3 = mkF m 0 #[.val (.int x0), .val (.int x1), .unset] [] := by first | (simp [entryFrame, mkF, argsToLocals, Value.category]; done) | rfl
def Q7 (Z : State) (p0 : Int32) (p1 : Int32) (h0 : Heap) (n0 : Nat) (v : Option Value) (h : Heap) (L : List Loc) : Prop := v = some (.int (f7 p0 p1)) ∧ Fr n0 L ∧ h = h0
set_option maxRecDepth 65536 in
set_option maxHeartbeats 40000000 in
theorem rm7 (l : Launch) (Z : State) (aZ : Array Value) (hw : ∀ d ∈ tables_1, d.before aZ Z = true) (ws : List Jvm.Cond) (p0 : Int32) (p1 : Int32) (h0 : Heap) (n0 : Nat) (Z0 : n0 ≤ h0.size) (hnz : p1 ≠ 0) :
    MetFree l (⟨"java/lang/Math", "floorMod", "(II)I"⟩ : MethodName) (head1 (Jvm.Cond.code (⟨"java/lang/Math", "floorMod", "(II)I"⟩ : MethodName) jdk_29_method_50_code 3 (some .int) :: ws) ({ frames := 0, cells := 0, slots := 0, locals := 0 } : Room)) (fun a U => a = #[(.int p0), (.int p1)] ∧ Z.Warmed39 U.vm ∧ U.heap = h0) (fun _ _ _ _ _ => True) (fun _ U o U' => ∃ v L, o = .returned v ∧ Q7 Z p0 p1 h0 n0 v U'.heap L ∧ FrameEnd U o U' L ({ frames := 0, cells := 0, slots := 0, locals := 0 } : Room).cells ({ frames := 0, cells := 0, slots := 0, locals := 0 } : Room).slots) := by
  refine MetFree.of_bodySF (Jvm.Free.JP.mathPlain rfl (by decide +kernel)) hisR ?_
  intro p e s m args below meth c s₁ Bd hml0 hP hK
  obtain ⟨rfl, hZ, hh⟩ := hP
  have hx := Bd.exec
  have hby := Bd.bytes
  have hlk : meth.locks = false := BodyLoose.notSynchronized Bd
  have hml : c.maxLocals = 3 := hml0
  have hown : s.vm.findClass "java/lang/Math" = some m.cls := findClass_of_methodNamed Bd.named
  have hnm := (name_of_methodNamed Bd.named Bd.method).1
  have X0 : Stand p l e ({ frames := 0, cells := 0, slots := 0, locals := 0 } : Room) s m #[(.int p0), (.int p1)] below meth c s₁ [] 0 0 := Stand.of_body Bd
  have e0 : s₁.heap = h0 := by rw [← hh, Bd.state]; rfl
  have N0 := Fr.nil n0
  show OEnd p e below s s₁ (entryFrame m #[(.int p0), (.int p1)] 3) (Q7 Z p0 p1 h0 n0) ({ frames := 0, cells := 0, slots := 0, locals := 0 } : Room).cells ({ frames := 0, cells := 0, slots := 0, locals := 0 } : Room).slots
  refine OEnd.go (g' := (mkF m 0 #[.val (.int p0), .val (.int p1), .unset] [])) (fun _ k => castTop (ef_7 m p0 p1) k) ?_
  refine OEnd.go (T' := s₁) (g' := (mkF m 7 #[.val (.int p0), .val (.int p1), .val (.int (p0 - (p0 / p1) * p1))] [(.int (p0 ^^^ p1))])) (fun t k => ?_) ?_
  · show Steps p.tables e below (s₁.setTop (mkF m 0 #[.val (.int p0), .val (.int p1), .unset] [])) t
    refine XS.iloadN X0.here hx rfl (hb hby d7_0) rfl ?_
    show Steps p.tables e below (s₁.setTop (mkF m 1 #[.val (.int p0), .val (.int p1), .unset] [(.int p0)])) t
    refine XS.iloadN X0.here hx rfl (hb hby d7_1) rfl ?_
    show Steps p.tables e below (s₁.setTop (mkF m 2 #[.val (.int p0), .val (.int p1), .unset] [(.int p1), (.int p0)])) t
    refine XS.irem X0.here hx rfl (hb hby d7_2) rfl hnz ?_
    show Steps p.tables e below (s₁.setTop (mkF m 3 #[.val (.int p0), .val (.int p1), .unset] [(.int (p0 - (p0 / p1) * p1))])) t
    refine XS.istoreN X0.here hx rfl (hb hby d7_3) rfl (l' := #[.val (.int p0), .val (.int p1), .val (.int (p0 - (p0 / p1) * p1))]) rfl ?_
    show Steps p.tables e below (s₁.setTop (mkF m 4 #[.val (.int p0), .val (.int p1), .val (.int (p0 - (p0 / p1) * p1))] [])) t
    refine XS.iloadN X0.here hx rfl (hb hby d7_4) rfl ?_
    show Steps p.tables e below (s₁.setTop (mkF m 5 #[.val (.int p0), .val (.int p1), .val (.int (p0 - (p0 / p1) * p1))] [(.int p0)])) t
    refine XS.iloadN X0.here hx rfl (hb hby d7_5) rfl ?_
    show Steps p.tables e below (s₁.setTop (mkF m 6 #[.val (.int p0), .val (.int p1), .val (.int (p0 - (p0 / p1) * p1))] [(.int p1), (.int p0)])) t
    refine XS.ixor X0.here hx rfl (hb hby d7_6) rfl ?_
    show Steps p.tables e below (s₁.setTop (mkF m 7 #[.val (.int p0), .val (.int p1), .val (.int (p0 - (p0 / p1) * p1))] [(.int (p0 ^^^ p1))])) t
    exact k
  by_cases hc1 : (p0 ^^^ p1) < (0 : Int32)
  · skip
    refine OEnd.go (T' := s₁) (g' := (mkF m 10 #[.val (.int p0), .val (.int p1), .val (.int (p0 - (p0 / p1) * p1))] [])) (fun t k => ?_) ?_
    · show Steps p.tables e below (s₁.setTop (mkF m 7 #[.val (.int p0), .val (.int p1), .val (.int (p0 - (p0 / p1) * p1))] [(.int (p0 ^^^ p1))])) t
      refine XS.ifNo X0.here hx rfl (hb hby d7_7) rfl ((if0 _ _).trans (tlt (hc1)).2.1) ?_
      show Steps p.tables e below (s₁.setTop (mkF m 10 #[.val (.int p0), .val (.int p1), .val (.int (p0 - (p0 / p1) * p1))] [])) t
      exact k
    refine OEnd.go (T' := s₁) (g' := (mkF m 11 #[.val (.int p0), .val (.int p1), .val (.int (p0 - (p0 / p1) * p1))] [(.int (p0 - (p0 / p1) * p1))])) (fun t k => ?_) ?_
    · show Steps p.tables e below (s₁.setTop (mkF m 10 #[.val (.int p0), .val (.int p1), .val (.int (p0 - (p0 / p1) * p1))] [])) t
      refine XS.iloadN X0.here hx rfl (hb hby d7_10) rfl ?_
      show Steps p.tables e below (s₁.setTop (mkF m 11 #[.val (.int p0), .val (.int p1), .val (.int (p0 - (p0 / p1) * p1))] [(.int (p0 - (p0 / p1) * p1))])) t
      exact k
    by_cases hc2 : (p0 - (p0 / p1) * p1) = (0 : Int32)
    · skip
      refine OEnd.go (T' := s₁) (g' := (mkF m 18 #[.val (.int p0), .val (.int p1), .val (.int (p0 - (p0 / p1) * p1))] [])) (fun t k => ?_) ?_
      · show Steps p.tables e below (s₁.setTop (mkF m 11 #[.val (.int p0), .val (.int p1), .val (.int (p0 - (p0 / p1) * p1))] [(.int (p0 - (p0 / p1) * p1))])) t
        refine XS.ifYes X0.here hx rfl (pc0 := 11) (pc' := 18) rfl (hb hby d7_11) rfl ((if0 _ _).trans (teq (hc2)).1) (by decide) (by decide) ?_
        show Steps p.tables e below (s₁.setTop (mkF m 18 #[.val (.int p0), .val (.int p1), .val (.int (p0 - (p0 / p1) * p1))] [])) t
        exact k
      refine OEnd.go (T' := s₁) (g' := (mkF m 19 #[.val (.int p0), .val (.int p1), .val (.int (p0 - (p0 / p1) * p1))] [(.int (p0 - (p0 / p1) * p1))])) (fun t k => ?_) ?_
      · show Steps p.tables e below (s₁.setTop (mkF m 18 #[.val (.int p0), .val (.int p1), .val (.int (p0 - (p0 / p1) * p1))] [])) t
        refine XS.iloadN X0.here hx rfl (hb hby d7_18) rfl ?_
        show Steps p.tables e below (s₁.setTop (mkF m 19 #[.val (.int p0), .val (.int p1), .val (.int (p0 - (p0 / p1) * p1))] [(.int (p0 - (p0 / p1) * p1))])) t
        exact k
      exact OEnd.int X0 hx Bd.returns hlk (hb hby d7_19) ⟨(congrArg (fun z => some (Value.int z)) (own_symm ((if_pos hc1).trans (if_pos hc2)))), N0, e0⟩ (by decide) (by decide)
    · skip
      refine OEnd.go (T' := s₁) (g' := (mkF m 14 #[.val (.int p0), .val (.int p1), .val (.int (p0 - (p0 / p1) * p1))] [])) (fun t k => ?_) ?_
      · show Steps p.tables e below (s₁.setTop (mkF m 11 #[.val (.int p0), .val (.int p1), .val (.int (p0 - (p0 / p1) * p1))] [(.int (p0 - (p0 / p1) * p1))])) t
        refine XS.ifNo X0.here hx rfl (hb hby d7_11) rfl ((if0 _ _).trans (feq (hc2)).1) ?_
        show Steps p.tables e below (s₁.setTop (mkF m 14 #[.val (.int p0), .val (.int p1), .val (.int (p0 - (p0 / p1) * p1))] [])) t
        exact k
      refine OEnd.go (T' := s₁) (g' := (mkF m 17 #[.val (.int p0), .val (.int p1), .val (.int (p0 - (p0 / p1) * p1))] [(.int ((p0 - (p0 / p1) * p1) + p1))])) (fun t k => ?_) ?_
      · show Steps p.tables e below (s₁.setTop (mkF m 14 #[.val (.int p0), .val (.int p1), .val (.int (p0 - (p0 / p1) * p1))] [])) t
        refine XS.iloadN X0.here hx rfl (hb hby d7_14) rfl ?_
        show Steps p.tables e below (s₁.setTop (mkF m 15 #[.val (.int p0), .val (.int p1), .val (.int (p0 - (p0 / p1) * p1))] [(.int (p0 - (p0 / p1) * p1))])) t
        refine XS.iloadN X0.here hx rfl (hb hby d7_15) rfl ?_
        show Steps p.tables e below (s₁.setTop (mkF m 16 #[.val (.int p0), .val (.int p1), .val (.int (p0 - (p0 / p1) * p1))] [(.int p1), (.int (p0 - (p0 / p1) * p1))])) t
        refine XS.iadd X0.here hx rfl (hb hby d7_16) rfl ?_
        show Steps p.tables e below (s₁.setTop (mkF m 17 #[.val (.int p0), .val (.int p1), .val (.int (p0 - (p0 / p1) * p1))] [(.int ((p0 - (p0 / p1) * p1) + p1))])) t
        exact k
      exact OEnd.int X0 hx Bd.returns hlk (hb hby d7_17) ⟨(congrArg (fun z => some (Value.int z)) (own_symm ((if_pos hc1).trans (if_neg hc2)))), N0, e0⟩ (by decide) (by decide)
  · skip
    refine OEnd.go (T' := s₁) (g' := (mkF m 18 #[.val (.int p0), .val (.int p1), .val (.int (p0 - (p0 / p1) * p1))] [])) (fun t k => ?_) ?_
    · show Steps p.tables e below (s₁.setTop (mkF m 7 #[.val (.int p0), .val (.int p1), .val (.int (p0 - (p0 / p1) * p1))] [(.int (p0 ^^^ p1))])) t
      refine XS.ifYes X0.here hx rfl (pc0 := 7) (pc' := 18) rfl (hb hby d7_7) rfl ((if0 _ _).trans (flt (hc1)).2.1) (by decide) (by decide) ?_
      show Steps p.tables e below (s₁.setTop (mkF m 18 #[.val (.int p0), .val (.int p1), .val (.int (p0 - (p0 / p1) * p1))] [])) t
      exact k
    refine OEnd.go (T' := s₁) (g' := (mkF m 19 #[.val (.int p0), .val (.int p1), .val (.int (p0 - (p0 / p1) * p1))] [(.int (p0 - (p0 / p1) * p1))])) (fun t k => ?_) ?_
    · show Steps p.tables e below (s₁.setTop (mkF m 18 #[.val (.int p0), .val (.int p1), .val (.int (p0 - (p0 / p1) * p1))] [])) t
      refine XS.iloadN X0.here hx rfl (hb hby d7_18) rfl ?_
      show Steps p.tables e below (s₁.setTop (mkF m 19 #[.val (.int p0), .val (.int p1), .val (.int (p0 - (p0 / p1) * p1))] [(.int (p0 - (p0 / p1) * p1))])) t
      exact k
    exact OEnd.int X0 hx Bd.returns hlk (hb hby d7_19) ⟨(congrArg (fun z => some (Value.int z)) (own_symm (if_neg hc1))), N0, e0⟩ (by decide) (by decide)
theorem d8_0 : decode jdk_29_method_69_code 0 = .ok (.iload_n 0, 1) := by decide +kernel
theorem d8_1 : decode jdk_29_method_69_code 1 = .ok (.iload_n 1, 1) := by decide +kernel
theorem d8_2 : decode jdk_29_method_69_code 2 = .ok (.if_icmp .gt 7, 3) := by decide +kernel
theorem d8_9 : decode jdk_29_method_69_code 9 = .ok (.iload_n 1, 1) := by decide +kernel
theorem d8_5 : decode jdk_29_method_69_code 5 = .ok (.iload_n 0, 1) := by decide +kernel
theorem d8_6 : decode jdk_29_method_69_code 6 = .ok (.goto 4, 3) := by decide +kernel
theorem d8_10 : decode jdk_29_method_69_code 10 = .ok (.ireturn, 1) := by decide +kernel
def f8 (p0 : Int32) (p1 : Int32) : Int32 := (if p1 < p0 then p1 else p0)
theorem ef_8 (m : MethodId) (x0 : Int32) (x1 : Int32) : entryFrame m #[(.int x0), (.int x1)] 2 = mkF m 0 #[.val (.int x0), .val (.int x1)] [] := by first | (simp [entryFrame, mkF, argsToLocals, Value.category]; done) | rfl
def Q8 (Z : State) (p0 : Int32) (p1 : Int32) (h0 : Heap) (n0 : Nat) (v : Option Value) (h : Heap) (L : List Loc) : Prop := v = some (.int (f8 p0 p1)) ∧ Fr n0 L ∧ h = h0
set_option maxRecDepth 65536 in
set_option maxHeartbeats 40000000 in
theorem rm8 (l : Launch) (Z : State) (aZ : Array Value) (hw : ∀ d ∈ tables_1, d.before aZ Z = true) (ws : List Jvm.Cond) (p0 : Int32) (p1 : Int32) (h0 : Heap) (n0 : Nat) (Z0 : n0 ≤ h0.size) :
    MetFree l (⟨"java/lang/Math", "min", "(II)I"⟩ : MethodName) (head1 (Jvm.Cond.code (⟨"java/lang/Math", "min", "(II)I"⟩ : MethodName) jdk_29_method_69_code 2 (some .int) :: ws) ({ frames := 0, cells := 0, slots := 0, locals := 0 } : Room)) (fun a U => a = #[(.int p0), (.int p1)] ∧ Z.Warmed39 U.vm ∧ U.heap = h0) (fun _ _ _ _ _ => True) (fun _ U o U' => ∃ v L, o = .returned v ∧ Q8 Z p0 p1 h0 n0 v U'.heap L ∧ FrameEnd U o U' L ({ frames := 0, cells := 0, slots := 0, locals := 0 } : Room).cells ({ frames := 0, cells := 0, slots := 0, locals := 0 } : Room).slots) := by
  refine MetFree.of_bodySF (Jvm.Free.JP.mathPlain rfl (by decide +kernel)) hisR ?_
  intro p e s m args below meth c s₁ Bd hml0 hP hK
  obtain ⟨rfl, hZ, hh⟩ := hP
  have hx := Bd.exec
  have hby := Bd.bytes
  have hlk : meth.locks = false := BodyLoose.notSynchronized Bd
  have hml : c.maxLocals = 2 := hml0
  have hown : s.vm.findClass "java/lang/Math" = some m.cls := findClass_of_methodNamed Bd.named
  have hnm := (name_of_methodNamed Bd.named Bd.method).1
  have X0 : Stand p l e ({ frames := 0, cells := 0, slots := 0, locals := 0 } : Room) s m #[(.int p0), (.int p1)] below meth c s₁ [] 0 0 := Stand.of_body Bd
  have e0 : s₁.heap = h0 := by rw [← hh, Bd.state]; rfl
  have N0 := Fr.nil n0
  show OEnd p e below s s₁ (entryFrame m #[(.int p0), (.int p1)] 2) (Q8 Z p0 p1 h0 n0) ({ frames := 0, cells := 0, slots := 0, locals := 0 } : Room).cells ({ frames := 0, cells := 0, slots := 0, locals := 0 } : Room).slots
  refine OEnd.go (g' := (mkF m 0 #[.val (.int p0), .val (.int p1)] [])) (fun _ k => castTop (ef_8 m p0 p1) k) ?_
  refine OEnd.go (T' := s₁) (g' := (mkF m 2 #[.val (.int p0), .val (.int p1)] [(.int p1), (.int p0)])) (fun t k => ?_) ?_
  · show Steps p.tables e below (s₁.setTop (mkF m 0 #[.val (.int p0), .val (.int p1)] [])) t
    refine XS.iloadN X0.here hx rfl (hb hby d8_0) rfl ?_
    show Steps p.tables e below (s₁.setTop (mkF m 1 #[.val (.int p0), .val (.int p1)] [(.int p0)])) t
    refine XS.iloadN X0.here hx rfl (hb hby d8_1) rfl ?_
    show Steps p.tables e below (s₁.setTop (mkF m 2 #[.val (.int p0), .val (.int p1)] [(.int p1), (.int p0)])) t
    exact k
  refine OEnd.go (T' := s₁) (g' := (mkF m 10 #[.val (.int p0), .val (.int p1)] [(.int (if p1 < p0 then p1 else p0))])) (fun t k => ?_) ?_
  · show Steps p.tables e below (s₁.setTop (mkF m 2 #[.val (.int p0), .val (.int p1)] [(.int p1), (.int p0)])) t
    by_cases hc1 : p1 < p0
    · skip
      refine XS.icmpYes X0.here hx rfl (pc0 := 2) (pc' := 9) rfl (hb hby d8_2) rfl (tlt (hc1)).2.2.1 (by decide) (by decide) ?_
      show Steps p.tables e below (s₁.setTop (mkF m 9 #[.val (.int p0), .val (.int p1)] [])) t
      refine SGo.go (T' := s₁) (g' := (mkF m 10 #[.val (.int p0), .val (.int p1)] [(.int p1)])) (fun t k => ?_) ?_
      · show Steps p.tables e below (s₁.setTop (mkF m 9 #[.val (.int p0), .val (.int p1)] [])) t
        refine XS.iloadN X0.here hx rfl (hb hby d8_9) rfl ?_
        show Steps p.tables e below (s₁.setTop (mkF m 10 #[.val (.int p0), .val (.int p1)] [(.int p1)])) t
        exact k
      exact (own_k (f := fun (z : Int32) => mkF m 10 #[.val (.int p0), .val (.int p1)] [(.int z)]) (if_pos hc1) k)
    · skip
      refine XS.icmpNo X0.here hx rfl (hb hby d8_2) rfl (flt (hc1)).2.2.1 ?_
      show Steps p.tables e below (s₁.setTop (mkF m 5 #[.val (.int p0), .val (.int p1)] [])) t
      refine SGo.go (T' := s₁) (g' := (mkF m 10 #[.val (.int p0), .val (.int p1)] [(.int p0)])) (fun t k => ?_) ?_
      · show Steps p.tables e below (s₁.setTop (mkF m 5 #[.val (.int p0), .val (.int p1)] [])) t
        refine XS.iloadN X0.here hx rfl (hb hby d8_5) rfl ?_
        show Steps p.tables e below (s₁.setTop (mkF m 6 #[.val (.int p0), .val (.int p1)] [(.int p0)])) t
        refine XS.goto X0.here hx rfl (pc0 := 6) (pc' := 10) rfl (hb hby d8_6) (by decide) (by decide) ?_
        show Steps p.tables e below (s₁.setTop (mkF m 10 #[.val (.int p0), .val (.int p1)] [(.int p0)])) t
        exact k
      exact (own_k (f := fun (z : Int32) => mkF m 10 #[.val (.int p0), .val (.int p1)] [(.int z)]) (if_neg hc1) k)
  exact OEnd.int X0 hx Bd.returns hlk (hb hby d8_10) ⟨rfl, N0, e0⟩ (by decide) (by decide)
theorem d6_0 : decode prog_12_method_5_code 0 = .ok (.iload_n 1, 1) := by decide +kernel
theorem d6_1 : decode prog_12_method_5_code 1 = .ok (.iload_n 0, 1) := by decide +kernel
theorem d6_2 : decode prog_12_method_5_code 2 = .ok (.isub, 1) := by decide +kernel
theorem d6_3 : decode prog_12_method_5_code 3 = .ok (.ldc 32, 2) := by decide +kernel
theorem d6_5 : decode prog_12_method_5_code 5 = .ok (.invokestatic 38, 3) := by decide +kernel
theorem pd__II_I : parseMethodDescriptor "(II)I" = some ⟨[.int, .int], some .int⟩ := by decide +kernel
theorem d6_8 : decode prog_12_method_5_code 8 = .ok (.ireturn, 1) := by decide +kernel
def f6 (p0 : Int32) (p1 : Int32) : Int32 := (f7 (p1 - p0) (65536 : Int32))
theorem ef_6 (m : MethodId) (x0 : Int32) (x1 : Int32) : entryFrame m #[(.int x0), (.int x1)] 2 = mkF m 0 #[.val (.int x0), .val (.int x1)] [] := by first | (simp [entryFrame, mkF, argsToLocals, Value.category]; done) | rfl
def Q6 (Z : State) (p0 : Int32) (p1 : Int32) (h0 : Heap) (n0 : Nat) (v : Option Value) (h : Heap) (L : List Loc) : Prop := v = some (.int (f6 p0 p1)) ∧ Fr n0 L ∧ h = h0
set_option maxRecDepth 65536 in
set_option maxHeartbeats 40000000 in
theorem rm6 (l : Launch) (Z : State) (aZ : Array Value) (hw : ∀ d ∈ tables_1, d.before aZ Z = true) (ws : List Jvm.Cond) (p0 : Int32) (p1 : Int32) (h0 : Heap) (n0 : Nat) (Z0 : n0 ≤ h0.size) :
    MetFree l (⟨"com/example/lanternwire/lanternwire/protocol/SequenceWindow", "ahead", "(II)I"⟩ : MethodName) (head1 (Jvm.Cond.code (⟨"com/example/lanternwire/lanternwire/protocol/SequenceWindow", "ahead", "(II)I"⟩ : MethodName) prog_12_method_5_code 2 (some .int) :: ws) ({ frames := 1, cells := 0, slots := 0, locals := 14 } : Room)) (fun a U => a = #[(.int p0), (.int p1)] ∧ Z.Warmed39 U.vm ∧ U.heap = h0) (fun _ _ _ _ _ => True) (fun _ U o U' => ∃ v L, o = .returned v ∧ Q6 Z p0 p1 h0 n0 v U'.heap L ∧ FrameEnd U o U' L ({ frames := 1, cells := 0, slots := 0, locals := 14 } : Room).cells ({ frames := 1, cells := 0, slots := 0, locals := 14 } : Room).slots) := by
  refine MetFree.of_bodySF (plainFor_of_name pn_com_example_lanternwire_lanternwire_protocol_SequenceWindow) hisR ?_
  intro p e s m args below meth c s₁ Bd hml0 hP hK
  obtain ⟨rfl, hZ, hh⟩ := hP
  have hx := Bd.exec
  have hby := Bd.bytes
  have hlk : meth.locks = false := BodyLoose.notSynchronized Bd
  have hml : c.maxLocals = 2 := hml0
  have hown : s.vm.findClass "com/example/lanternwire/lanternwire/protocol/SequenceWindow" = some m.cls := findClass_of_methodNamed Bd.named
  have hnm := (name_of_methodNamed Bd.named Bd.method).1
  have X0 : Stand p l e ({ frames := 1, cells := 0, slots := 0, locals := 14 } : Room) s m #[(.int p0), (.int p1)] below meth c s₁ [] 0 0 := Stand.of_body Bd
  have e0 : s₁.heap = h0 := by rw [← hh, Bd.state]; rfl
  have N0 := Fr.nil n0
  show OEnd p e below s s₁ (entryFrame m #[(.int p0), (.int p1)] 2) (Q6 Z p0 p1 h0 n0) ({ frames := 1, cells := 0, slots := 0, locals := 14 } : Room).cells ({ frames := 1, cells := 0, slots := 0, locals := 14 } : Room).slots
  refine OEnd.go (g' := (mkF m 0 #[.val (.int p0), .val (.int p1)] [])) (fun _ k => castTop (ef_6 m p0 p1) k) ?_
  refine OEnd.go (T' := s₁) (g' := (mkF m 5 #[.val (.int p0), .val (.int p1)] [(.int (65536 : Int32)), (.int (p1 - p0))])) (fun t k => ?_) ?_
  · show Steps p.tables e below (s₁.setTop (mkF m 0 #[.val (.int p0), .val (.int p1)] [])) t
    refine XS.iloadN X0.here hx rfl (hb hby d6_0) rfl ?_
    show Steps p.tables e below (s₁.setTop (mkF m 1 #[.val (.int p0), .val (.int p1)] [(.int p1)])) t
    refine XS.iloadN X0.here hx rfl (hb hby d6_1) rfl ?_
    show Steps p.tables e below (s₁.setTop (mkF m 2 #[.val (.int p0), .val (.int p1)] [(.int p0), (.int p1)])) t
    refine XS.isub X0.here hx rfl (hb hby d6_2) rfl ?_
    show Steps p.tables e below (s₁.setTop (mkF m 3 #[.val (.int p0), .val (.int p1)] [(.int (p1 - p0))])) t
    refine X0.ldcInt hx hown (mvT hZ (hw _ (List.mem_of_getElem? (i := 26) rfl))) (g := (mkF m 3 #[.val (.int p0), .val (.int p1)] [(.int (p1 - p0))])) rfl (hb hby d6_3) _ ?_
    show Steps p.tables e below (s₁.setTop (mkF m 5 #[.val (.int p0), .val (.int p1)] [(.int (65536 : Int32)), (.int (p1 - p0))])) t
    exact k
  obtain ⟨_, _, ⟨T1, L1, k1, n1⟩, -, X1, ⟨Lc1, hQ1, l1, y1, z1⟩, st1⟩ := Jvm.LawKit.callS X0 hx (y := (⟨"java/lang/Math", "floorMod", "(II)I"⟩ : MethodName)) hown (mvT hZ (hw _ (List.mem_of_getElem? (i := 30) rfl))) (mvT hZ (hw _ (List.mem_of_getElem? (i := 31) rfl))) (mvT hZ (hw _ (List.mem_of_getElem? (i := 32) rfl))) (mvT hZ (hw _ (List.mem_of_getElem? (i := 33) rfl))) (by decide) (backOf (W := 0) (rm7 l Z aZ hw [] (p1 - p0) (65536 : Int32) h0 n0 Z0 (by decide)) hZ (hw _ (List.mem_of_getElem? (i := 33) rfl)) (hw _ (List.mem_of_getElem? (i := 32) rfl)) (by decide) (by decide)) (g := (mkF m 5 #[.val (.int p0), .val (.int p1)] [(.int (65536 : Int32)), (.int (p1 - p0))])) rfl (by rw [hml]; rfl) (argsL := [(.int (p1 - p0)), (.int (65536 : Int32))]) (rest := []) (lenOf pd__II_I rfl) rfl (by show 2 * 0 + _ ≤ _; exact Nat.le_of_eq rfl) (hb hby d6_5) (fun _ _ => ⟨rfl, e0, (by decide : 0 + 0 ≤ _), (by decide : 0 + 0 ≤ _)⟩)
  dsimp only [Pt.U, Pt.locs, Pt.cells, Pt.slots] at X1 l1 y1 z1 st1 hQ1
  subst l1 y1 z1
  obtain ⟨rfl, N1q, e1⟩ := hQ1
  have N1 := Fr.app N0 N1q
  refine OEnd.go (g' := (mkF m 8 #[.val (.int p0), .val (.int p1)] [(.int (f7 (p1 - p0) (65536 : Int32)))])) st1 ?_
  exact OEnd.int X1 hx Bd.returns hlk (hb hby d6_8) ⟨rfl, N1, e1⟩ (by decide) (by decide)
theorem d5_0 : decode prog_12_method_4_code 0 = .ok (.iload_n 0, 1) := by decide +kernel
theorem d5_1 : decode prog_12_method_4_code 1 = .ok (.iconst 1, 1) := by decide +kernel
theorem d5_2 : decode prog_12_method_4_code 2 = .ok (.iadd, 1) := by decide +kernel
theorem d5_3 : decode prog_12_method_4_code 3 = .ok (.ldc 32, 2) := by decide +kernel
theorem d5_5 : decode prog_12_method_4_code 5 = .ok (.irem, 1) := by decide +kernel
theorem d5_6 : decode prog_12_method_4_code 6 = .ok (.ireturn, 1) := by decide +kernel
def f5 (p0 : Int32) : Int32 := ((p0 + (1 : Int32)) - ((p0 + (1 : Int32)) / (65536 : Int32)) * (65536 : Int32))
theorem ef_5 (m : MethodId) (x0 : Int32) : entryFrame m #[(.int x0)] 1 = mkF m 0 #[.val (.int x0)] [] := by first | (simp [entryFrame, mkF, argsToLocals, Value.category]; done) | rfl
def Q5 (Z : State) (p0 : Int32) (h0 : Heap) (n0 : Nat) (v : Option Value) (h : Heap) (L : List Loc) : Prop := v = some (.int (f5 p0)) ∧ Fr n0 L ∧ h = h0
set_option maxRecDepth 65536 in
set_option maxHeartbeats 40000000 in
theorem rm5 (l : Launch) (Z : State) (aZ : Array Value) (hw : ∀ d ∈ tables_1, d.before aZ Z = true) (ws : List Jvm.Cond) (p0 : Int32) (h0 : Heap) (n0 : Nat) (Z0 : n0 ≤ h0.size) :
    MetFree l (⟨"com/example/lanternwire/lanternwire/protocol/SequenceWindow", "next", "(I)I"⟩ : MethodName) (head1 (Jvm.Cond.code (⟨"com/example/lanternwire/lanternwire/protocol/SequenceWindow", "next", "(I)I"⟩ : MethodName) prog_12_method_4_code 1 (some .int) :: ws) ({ frames := 0, cells := 0, slots := 0, locals := 0 } : Room)) (fun a U => a = #[(.int p0)] ∧ Z.Warmed39 U.vm ∧ U.heap = h0) (fun _ _ _ _ _ => True) (fun _ U o U' => ∃ v L, o = .returned v ∧ Q5 Z p0 h0 n0 v U'.heap L ∧ FrameEnd U o U' L ({ frames := 0, cells := 0, slots := 0, locals := 0 } : Room).cells ({ frames := 0, cells := 0, slots := 0, locals := 0 } : Room).slots) := by
  refine MetFree.of_bodySF (plainFor_of_name pn_com_example_lanternwire_lanternwire_protocol_SequenceWindow) hisR ?_
  intro p e s m args below meth c s₁ Bd hml0 hP hK
  obtain ⟨rfl, hZ, hh⟩ := hP
  have hx := Bd.exec
  have hby := Bd.bytes
  have hlk : meth.locks = false := BodyLoose.notSynchronized Bd
  have hml : c.maxLocals = 1 := hml0
  have hown : s.vm.findClass "com/example/lanternwire/lanternwire/protocol/SequenceWindow" = some m.cls := findClass_of_methodNamed Bd.named
  have hnm := (name_of_methodNamed Bd.named Bd.method).1
  have X0 : Stand p l e ({ frames := 0, cells := 0, slots := 0, locals := 0 } : Room) s m #[(.int p0)] below meth c s₁ [] 0 0 := Stand.of_body Bd
  have e0 : s₁.heap = h0 := by rw [← hh, Bd.state]; rfl
  have N0 := Fr.nil n0
  show OEnd p e below s s₁ (entryFrame m #[(.int p0)] 1) (Q5 Z p0 h0 n0) ({ frames := 0, cells := 0, slots := 0, locals := 0 } : Room).cells ({ frames := 0, cells := 0, slots := 0, locals := 0 } : Room).slots
  refine OEnd.go (g' := (mkF m 0 #[.val (.int p0)] [])) (fun _ k => castTop (ef_5 m p0) k) ?_
  refine OEnd.go (T' := s₁) (g' := (mkF m 6 #[.val (.int p0)] [(.int ((p0 + (1 : Int32)) - ((p0 + (1 : Int32)) / (65536 : Int32)) * (65536 : Int32)))])) (fun t k => ?_) ?_
  · show Steps p.tables e below (s₁.setTop (mkF m 0 #[.val (.int p0)] [])) t
    refine XS.iloadN X0.here hx rfl (hb hby d5_0) rfl ?_
    show Steps p.tables e below (s₁.setTop (mkF m 1 #[.val (.int p0)] [(.int p0)])) t
    refine XS.iconst X0.here hx rfl (hb hby d5_1) ?_
    show Steps p.tables e below (s₁.setTop (mkF m 2 #[.val (.int p0)] [(.int (1 : Int32)), (.int p0)])) t
    refine XS.iadd X0.here hx rfl (hb hby d5_2) rfl ?_
    show Steps p.tables e below (s₁.setTop (mkF m 3 #[.val (.int p0)] [(.int (p0 + (1 : Int32)))])) t
    refine X0.ldcInt hx hown (mvT hZ (hw _ (List.mem_of_getElem? (i := 26) rfl))) (g := (mkF m 3 #[.val (.int p0)] [(.int (p0 + (1 : Int32)))])) rfl (hb hby d5_3) _ ?_
    show Steps p.tables e below (s₁.setTop (mkF m 5 #[.val (.int p0)] [(.int (65536 : Int32)), (.int (p0 + (1 : Int32)))])) t
    refine XS.irem X0.here hx rfl (hb hby d5_5) rfl (by decide) ?_
    show Steps p.tables e below (s₁.setTop (mkF m 6 #[.val (.int p0)] [(.int ((p0 + (1 : Int32)) - ((p0 + (1 : Int32)) / (65536 : Int32)) * (65536 : Int32)))])) t
    exact k
  exact OEnd.int X0 hx Bd.returns hlk (hb hby d5_6) ⟨rfl, N0, e0⟩ (by decide) (by decide)
theorem d4_0 : decode prog_12_method_3_code 0 = .ok (.iload_n 1, 1) := by decide +kernel
theorem d4_1 : decode prog_12_method_3_code 1 = .ok (.invokestatic 28, 3) := by decide +kernel
theorem pd__I_I : parseMethodDescriptor "(I)I" = some ⟨[.int], some .int⟩ := by decide +kernel
theorem d4_4 : decode prog_12_method_3_code 4 = .ok (.iload_n 2, 1) := by decide +kernel
theorem d4_5 : decode prog_12_method_3_code 5 = .ok (.invokestatic 24, 3) := by decide +kernel
theorem d4_8 : decode prog_12_method_3_code 8 = .ok (.istore_n 3, 1) := by decide +kernel
theorem d4_9 : decode prog_12_method_3_code 9 = .ok (.iload_n 3, 1) := by decide +kernel
theorem d4_10 : decode prog_12_method_3_code 10 = .ok (.ldc 32, 2) := by decide +kernel
theorem d4_12 : decode prog_12_method_3_code 12 = .ok (.iload_n 3, 1) := by decide +kernel
theorem d4_13 : decode prog_12_method_3_code 13 = .ok (.isub, 1) := by decide +kernel
theorem d4_14 : decode prog_12_method_3_code 14 = .ok (.invokestatic 33, 3) := by decide +kernel
theorem d4_17 : decode prog_12_method_3_code 17 = .ok (.aload_n 0, 1) := by decide +kernel
theorem d4_18 : decode prog_12_method_3_code 18 = .ok (.getfield 20, 3) := by decide +kernel
theorem d4_21 : decode prog_12_method_3_code 21 = .ok (.if_icmp .gt 7, 3) := by decide +kernel
theorem d4_28 : decode prog_12_method_3_code 28 = .ok (.iconst 0, 1) := by decide +kernel
theorem d4_24 : decode prog_12_method_3_code 24 = .ok (.iconst 1, 1) := by decide +kernel
theorem d4_25 : decode prog_12_method_3_code 25 = .ok (.goto 4, 3) := by decide +kernel
theorem d4_29 : decode prog_12_method_3_code 29 = .ok (.ireturn, 1) := by decide +kernel
def f4 (p1 : Int32) (p2 : Int32) (w0 : Int32) : Int32 := nar .boolean (if w0 < (f8 (f6 (f5 p1) p2) ((65536 : Int32) - (f6 (f5 p1) p2))) then (0 : Int32) else (1 : Int32))
theorem ef_4 (m : MethodId) (x0 : Addr) (x1 : Int32) (x2 : Int32) : entryFrame m #[(.ref x0), (.int x1), (.int x2)] 4 = mkF m 0 #[.val (.ref x0), .val (.int x1), .val (.int x2), .unset] [] := by first | (simp [entryFrame, mkF, argsToLocals, Value.category]; done) | rfl
def Q4 (Z : State) (a0 : Addr) (p1 : Int32) (p2 : Int32) (w0 : Int32) (h0 : Heap) (n0 : Nat) (v : Option Value) (h : Heap) (L : List Loc) : Prop := v = some (.int (f4 p1 p2 w0)) ∧ Fr n0 L ∧ h = h0
set_option maxRecDepth 65536 in
set_option maxHeartbeats 40000000 in
theorem rm4 (l : Launch) (Z : State) (aZ : Array Value) (hw : ∀ d ∈ tables_1, d.before aZ Z = true) (ws : List Jvm.Cond) (a0 : Addr) (p1 : Int32) (p2 : Int32) (w0 : Int32) (h0 : Heap) (n0 : Nat) (Z0 : n0 ≤ h0.size) (F0 : Fld Z h0 a0 "com/example/lanternwire/lanternwire/protocol/SequenceWindow" "size" "I" (.int w0)) :
    MetFree l (⟨"com/example/lanternwire/lanternwire/protocol/SequenceWindow", "acceptsRequest", "(II)Z"⟩ : MethodName) (head1 (Jvm.Cond.code (⟨"com/example/lanternwire/lanternwire/protocol/SequenceWindow", "acceptsRequest", "(II)Z"⟩ : MethodName) prog_12_method_3_code 4 (some .boolean) :: ws) ({ frames := 2, cells := 0, slots := 0, locals := 27 } : Room)) (fun a U => a = #[(.ref a0), (.int p1), (.int p2)] ∧ Z.Warmed39 U.vm ∧ U.heap = h0) (fun _ _ _ _ _ => True) (fun _ U o U' => ∃ v L, o = .returned v ∧ Q4 Z a0 p1 p2 w0 h0 n0 v U'.heap L ∧ FrameEnd U o U' L ({ frames := 2, cells := 0, slots := 0, locals := 27 } : Room).cells ({ frames := 2, cells := 0, slots := 0, locals := 27 } : Room).slots) := by
  refine MetFree.of_bodySF (plainFor_of_name pn_com_example_lanternwire_lanternwire_protocol_SequenceWindow) hisR ?_
  intro p e s m args below meth c s₁ Bd hml0 hP hK
  obtain ⟨rfl, hZ, hh⟩ := hP
  have hx := Bd.exec
  have hby := Bd.bytes
  have hlk : meth.locks = false := BodyLoose.notSynchronized Bd
  have hml : c.maxLocals = 4 := hml0
  have hown : s.vm.findClass "com/example/lanternwire/lanternwire/protocol/SequenceWindow" = some m.cls := findClass_of_methodNamed Bd.named
  have hnm := (name_of_methodNamed Bd.named Bd.method).1
  have X0 : Stand p l e ({ frames := 2, cells := 0, slots := 0, locals := 27 } : Room) s m #[(.ref a0), (.int p1), (.int p2)] below meth c s₁ [] 0 0 := Stand.of_body Bd
  have e0 : s₁.heap = h0 := by rw [← hh, Bd.state]; rfl
  have N0 := Fr.nil n0
  show OEnd p e below s s₁ (entryFrame m #[(.ref a0), (.int p1), (.int p2)] 4) (Q4 Z a0 p1 p2 w0 h0 n0) ({ frames := 2, cells := 0, slots := 0, locals := 27 } : Room).cells ({ frames := 2, cells := 0, slots := 0, locals := 27 } : Room).slots
  refine OEnd.go (g' := (mkF m 0 #[.val (.ref a0), .val (.int p1), .val (.int p2), .unset] [])) (fun _ k => castTop (ef_4 m a0 p1 p2) k) ?_
  refine OEnd.go (T' := s₁) (g' := (mkF m 1 #[.val (.ref a0), .val (.int p1), .val (.int p2), .unset] [(.int p1)])) (fun t k => ?_) ?_
  · show Steps p.tables e below (s₁.setTop (mkF m 0 #[.val (.ref a0), .val (.int p1), .val (.int p2), .unset] [])) t
    refine XS.iloadN X0.here hx rfl (hb hby d4_0) rfl ?_
    show Steps p.tables e below (s₁.setTop (mkF m 1 #[.val (.ref a0), .val (.int p1), .val (.int p2), .unset] [(.int p1)])) t
    exact k
  obtain ⟨_, _, ⟨T1, L1, k1, n1⟩, -, X1, ⟨Lc1, hQ1, l1, y1, z1⟩, st1⟩ := Jvm.LawKit.callS X0 hx (y := (⟨"com/example/lanternwire/lanternwire/protocol/SequenceWindow", "next", "(I)I"⟩ : MethodName)) hown (mvT hZ (hw _ (List.mem_of_getElem? (i := 23) rfl))) (mvT hZ (hw _ (List.mem_of_getElem? (i := 24) rfl))) (mvT hZ (hw _ (List.mem_of_getElem? (i := 4) rfl))) (mvT hZ (hw _ (List.mem_of_getElem? (i := 25) rfl))) (by decide) (backOf (W := 0) (rm5 l Z aZ hw [] p1 h0 n0 Z0 ) hZ (hw _ (List.mem_of_getElem? (i := 25) rfl)) (hw _ (List.mem_of_getElem? (i := 4) rfl)) (by decide) (by decide)) (g := (mkF m 1 #[.val (.ref a0), .val (.int p1), .val (.int p2), .unset] [(.int p1)])) rfl (by rw [hml]; rfl) (argsL := [(.int p1)]) (rest := []) (lenOf pd__I_I rfl) rfl (by show 2 * 0 + _ ≤ _; exact Nat.le_of_eq rfl) (hb hby d4_1) (fun _ _ => ⟨rfl, e0, (by decide : 0 + 0 ≤ _), (by decide : 0 + 0 ≤ _)⟩)
  dsimp only [Pt.U, Pt.locs, Pt.cells, Pt.slots] at X1 l1 y1 z1 st1 hQ1
  subst l1 y1 z1
  obtain ⟨rfl, N1q, e1⟩ := hQ1
  have N1 := Fr.app N0 N1q
  refine OEnd.go (g' := (mkF m 4 #[.val (.ref a0), .val (.int p1), .val (.int p2), .unset] [(.int (f5 p1))])) st1 ?_
  refine OEnd.go (T' := T1) (g' := (mkF m 5 #[.val (.ref a0), .val (.int p1), .val (.int p2), .unset] [(.int p2), (.int (f5 p1))])) (fun t k => ?_) ?_
  · show Steps p.tables e below (T1.setTop (mkF m 4 #[.val (.ref a0), .val (.int p1), .val (.int p2), .unset] [(.int (f5 p1))])) t
    refine XS.iloadN X1.here hx rfl (hb hby d4_4) rfl ?_
    show Steps p.tables e below (T1.setTop (mkF m 5 #[.val (.ref a0), .val (.int p1), .val (.int p2), .unset] [(.int p2), (.int (f5 p1))])) t
    exact k
  obtain ⟨_, _, ⟨T2, L2, k2, n2⟩, -, X2, ⟨Lc2, hQ2, l2, y2, z2⟩, st2⟩ := Jvm.LawKit.callS X1 hx (y := (⟨"com/example/lanternwire/lanternwire/protocol/SequenceWindow", "ahead", "(II)I"⟩ : MethodName)) hown (mvT hZ (hw _ (List.mem_of_getElem? (i := 27) rfl))) (mvT hZ (hw _ (List.mem_of_getElem? (i := 28) rfl))) (mvT hZ (hw _ (List.mem_of_getElem? (i := 4) rfl))) (mvT hZ (hw _ (List.mem_of_getElem? (i := 29) rfl))) (by decide) (backOf (W := 0) (rm6 l Z aZ hw [] (f5 p1) p2 h0 n0 Z0 ) hZ (hw _ (List.mem_of_getElem? (i := 29) rfl)) (hw _ (List.mem_of_getElem? (i := 4) rfl)) (by decide) (by decide)) (g := (mkF m 5 #[.val (.ref a0), .val (.int p1), .val (.int p2), .unset] [(.int p2), (.int (f5 p1))])) rfl (by rw [hml]; rfl) (argsL := [(.int (f5 p1)), (.int p2)]) (rest := []) (lenOf pd__II_I rfl) rfl (by show 2 * 0 + _ ≤ _; exact Nat.le_of_eq rfl) (hb hby d4_5) (fun _ _ => ⟨rfl, e1, (by decide : 0 + 0 ≤ _), (by decide : 0 + 0 ≤ _)⟩)
  dsimp only [Pt.U, Pt.locs, Pt.cells, Pt.slots] at X2 l2 y2 z2 st2 hQ2
  subst l2 y2 z2
  obtain ⟨rfl, N2q, e2⟩ := hQ2
  have N2 := Fr.app N1 N2q
  refine OEnd.go (g' := (mkF m 8 #[.val (.ref a0), .val (.int p1), .val (.int p2), .unset] [(.int (f6 (f5 p1) p2))])) st2 ?_
  refine OEnd.go (T' := T2) (g' := (mkF m 14 #[.val (.ref a0), .val (.int p1), .val (.int p2), .val (.int (f6 (f5 p1) p2))] [(.int ((65536 : Int32) - (f6 (f5 p1) p2))), (.int (f6 (f5 p1) p2))])) (fun t k => ?_) ?_
  · show Steps p.tables e below (T2.setTop (mkF m 8 #[.val (.ref a0), .val (.int p1), .val (.int p2), .unset] [(.int (f6 (f5 p1) p2))])) t
    refine XS.istoreN X2.here hx rfl (hb hby d4_8) rfl (l' := #[.val (.ref a0), .val (.int p1), .val (.int p2), .val (.int (f6 (f5 p1) p2))]) rfl ?_
    show Steps p.tables e below (T2.setTop (mkF m 9 #[.val (.ref a0), .val (.int p1), .val (.int p2), .val (.int (f6 (f5 p1) p2))] [])) t
    refine XS.iloadN X2.here hx rfl (hb hby d4_9) rfl ?_
    show Steps p.tables e below (T2.setTop (mkF m 10 #[.val (.ref a0), .val (.int p1), .val (.int p2), .val (.int (f6 (f5 p1) p2))] [(.int (f6 (f5 p1) p2))])) t
    refine X2.ldcInt hx hown (mvT hZ (hw _ (List.mem_of_getElem? (i := 26) rfl))) (g := (mkF m 10 #[.val (.ref a0), .val (.int p1), .val (.int p2), .val (.int (f6 (f5 p1) p2))] [(.int (f6 (f5 p1) p2))])) rfl (hb hby d4_10) _ ?_
    show Steps p.tables e below (T2.setTop (mkF m 12 #[.val (.ref a0), .val (.int p1), .val (.int p2), .val (.int (f6 (f5 p1) p2))] [(.int (65536 : Int32)), (.int (f6 (f5 p1) p2))])) t
    refine XS.iloadN X2.here hx rfl (hb hby d4_12) rfl ?_
    show Steps p.tables e below (T2.setTop (mkF m 13 #[.val (.ref a0), .val (.int p1), .val (.int p2), .val (.int (f6 (f5 p1) p2))] [(.int (f6 (f5 p1) p2)), (.int (65536 : Int32)), (.int (f6 (f5 p1) p2))])) t
    refine XS.isub X2.here hx rfl (hb hby d4_13) rfl ?_
    show Steps p.tables e below (T2.setTop (mkF m 14 #[.val (.ref a0), .val (.int p1), .val (.int p2), .val (.int (f6 (f5 p1) p2))] [(.int ((65536 : Int32) - (f6 (f5 p1) p2))), (.int (f6 (f5 p1) p2))])) t
    exact k
  obtain ⟨_, _, ⟨T3, L3, k3, n3⟩, -, X3, ⟨Lc3, hQ3, l3, y3, z3⟩, st3⟩ := Jvm.LawKit.callS X2 hx (y := (⟨"java/lang/Math", "min", "(II)I"⟩ : MethodName)) hown (mvT hZ (hw _ (List.mem_of_getElem? (i := 34) rfl))) (mvT hZ (hw _ (List.mem_of_getElem? (i := 35) rfl))) (mvT hZ (hw _ (List.mem_of_getElem? (i := 32) rfl))) (mvT hZ (hw _ (List.mem_of_getElem? (i := 36) rfl))) (by decide) (backOf (W := 0) (rm8 l Z aZ hw [] (f6 (f5 p1) p2) ((65536 : Int32) - (f6 (f5 p1) p2)) h0 n0 Z0 ) hZ (hw _ (List.mem_of_getElem? (i := 36) rfl)) (hw _ (List.mem_of_getElem? (i := 32) rfl)) (by decide) (by decide)) (g := (mkF m 14 #[.val (.ref a0), .val (.int p1), .val (.int p2), .val (.int (f6 (f5 p1) p2))] [(.int ((65536 : Int32) - (f6 (f5 p1) p2))), (.int (f6 (f5 p1) p2))])) rfl (by rw [hml]; rfl) (argsL := [(.int (f6 (f5 p1) p2)), (.int ((65536 : Int32) - (f6 (f5 p1) p2)))]) (rest := []) (lenOf pd__II_I rfl) rfl (by show 2 * 0 + _ ≤ _; exact Nat.le_of_eq rfl) (hb hby d4_14) (fun _ _ => ⟨rfl, e2, (by decide : 0 + 0 ≤ _), (by decide : 0 + 0 ≤ _)⟩)
  dsimp only [Pt.U, Pt.locs, Pt.cells, Pt.slots] at X3 l3 y3 z3 st3 hQ3
  subst l3 y3 z3
  obtain ⟨rfl, N3q, e3⟩ := hQ3
  have N3 := Fr.app N2 N3q
  refine OEnd.go (g' := (mkF m 17 #[.val (.ref a0), .val (.int p1), .val (.int p2), .val (.int (f6 (f5 p1) p2))] [(.int (f8 (f6 (f5 p1) p2) ((65536 : Int32) - (f6 (f5 p1) p2))))])) st3 ?_
  refine OEnd.go (T' := T3) (g' := (mkF m 18 #[.val (.ref a0), .val (.int p1), .val (.int p2), .val (.int (f6 (f5 p1) p2))] [(.ref a0), (.int (f8 (f6 (f5 p1) p2) ((65536 : Int32) - (f6 (f5 p1) p2))))])) (fun t k => ?_) ?_
  · show Steps p.tables e below (T3.setTop (mkF m 17 #[.val (.ref a0), .val (.int p1), .val (.int p2), .val (.int (f6 (f5 p1) p2))] [(.int (f8 (f6 (f5 p1) p2) ((65536 : Int32) - (f6 (f5 p1) p2))))])) t
    refine XS.aloadN X3.here hx rfl (hb hby d4_17) rfl rfl ?_
    show Steps p.tables e below (T3.setTop (mkF m 18 #[.val (.ref a0), .val (.int p1), .val (.int p2), .val (.int (f6 (f5 p1) p2))] [(.ref a0), (.int (f8 (f6 (f5 p1) p2) ((65536 : Int32) - (f6 (f5 p1) p2))))])) t
    exact k
  obtain ⟨T4, X4, e4, st4⟩ := getF X3 hx hZ hown (host := "") (Or.inl (hw _ (List.mem_of_getElem? (i := 16) rfl))) Via.refl e3 F0 (g := (mkF m 18 #[.val (.ref a0), .val (.int p1), .val (.int p2), .val (.int (f6 (f5 p1) p2))] [(.ref a0), (.int (f8 (f6 (f5 p1) p2) ((65536 : Int32) - (f6 (f5 p1) p2))))])) rfl rfl (hb hby d4_18)
  refine OEnd.go (g' := (mkF m 21 #[.val (.ref a0), .val (.int p1), .val (.int p2), .val (.int (f6 (f5 p1) p2))] [(.int w0), (.int (f8 (f6 (f5 p1) p2) ((65536 : Int32) - (f6 (f5 p1) p2))))])) st4 ?_
  refine OEnd.go (T' := T4) (g' := (mkF m 29 #[.val (.ref a0), .val (.int p1), .val (.int p2), .val (.int (f6 (f5 p1) p2))] [(.int (if w0 < (f8 (f6 (f5 p1) p2) ((65536 : Int32) - (f6 (f5 p1) p2))) then (0 : Int32) else (1 : Int32)))])) (fun t k => ?_) ?_
  · show Steps p.tables e below (T4.setTop (mkF m 21 #[.val (.ref a0), .val (.int p1), .val (.int p2), .val (.int (f6 (f5 p1) p2))] [(.int w0), (.int (f8 (f6 (f5 p1) p2) ((65536 : Int32) - (f6 (f5 p1) p2))))])) t
    by_cases hc5 : w0 < (f8 (f6 (f5 p1) p2) ((65536 : Int32) - (f6 (f5 p1) p2)))
    · skip
      refine XS.icmpYes X4.here hx rfl (pc0 := 21) (pc' := 28) rfl (hb hby d4_21) rfl (tlt (hc5)).2.2.1 (by decide) (by decide) ?_
      show Steps p.tables e below (T4.setTop (mkF m 28 #[.val (.ref a0), .val (.int p1), .val (.int p2), .val (.int (f6 (f5 p1) p2))] [])) t
      refine SGo.go (T' := T4) (g' := (mkF m 29 #[.val (.ref a0), .val (.int p1), .val (.int p2), .val (.int (f6 (f5 p1) p2))] [(.int (0 : Int32))])) (fun t k => ?_) ?_
      · show Steps p.tables e below (T4.setTop (mkF m 28 #[.val (.ref a0), .val (.int p1), .val (.int p2), .val (.int (f6 (f5 p1) p2))] [])) t
        refine XS.iconst X4.here hx rfl (hb hby d4_28) ?_
        show Steps p.tables e below (T4.setTop (mkF m 29 #[.val (.ref a0), .val (.int p1), .val (.int p2), .val (.int (f6 (f5 p1) p2))] [(.int (0 : Int32))])) t
        exact k
      exact (own_k (f := fun (z : Int32) => mkF m 29 #[.val (.ref a0), .val (.int p1), .val (.int p2), .val (.int (f6 (f5 p1) p2))] [(.int z)]) (if_pos hc5) k)
    · skip
      refine XS.icmpNo X4.here hx rfl (hb hby d4_21) rfl (flt (hc5)).2.2.1 ?_
      show Steps p.tables e below (T4.setTop (mkF m 24 #[.val (.ref a0), .val (.int p1), .val (.int p2), .val (.int (f6 (f5 p1) p2))] [])) t
      refine SGo.go (T' := T4) (g' := (mkF m 29 #[.val (.ref a0), .val (.int p1), .val (.int p2), .val (.int (f6 (f5 p1) p2))] [(.int (1 : Int32))])) (fun t k => ?_) ?_
      · show Steps p.tables e below (T4.setTop (mkF m 24 #[.val (.ref a0), .val (.int p1), .val (.int p2), .val (.int (f6 (f5 p1) p2))] [])) t
        refine XS.iconst X4.here hx rfl (hb hby d4_24) ?_
        show Steps p.tables e below (T4.setTop (mkF m 25 #[.val (.ref a0), .val (.int p1), .val (.int p2), .val (.int (f6 (f5 p1) p2))] [(.int (1 : Int32))])) t
        refine XS.goto X4.here hx rfl (pc0 := 25) (pc' := 29) rfl (hb hby d4_25) (by decide) (by decide) ?_
        show Steps p.tables e below (T4.setTop (mkF m 29 #[.val (.ref a0), .val (.int p1), .val (.int p2), .val (.int (f6 (f5 p1) p2))] [(.int (1 : Int32))])) t
        exact k
      exact (own_k (f := fun (z : Int32) => mkF m 29 #[.val (.ref a0), .val (.int p1), .val (.int p2), .val (.int (f6 (f5 p1) p2))] [(.int z)]) (if_neg hc5) k)
  exact OEnd.nar X4 hx (t := .boolean) Bd.returns (by simp) hlk (hb hby d4_29) ⟨rfl, N3, e4⟩ (by decide) (by decide)
theorem d9_0 : decode method_2_code 0 = .ok (.iload_n 1, 1) := by decide +kernel
theorem d9_1 : decode method_2_code 1 = .ok (.iload_n 0, 1) := by decide +kernel
theorem d9_2 : decode method_2_code 2 = .ok (.iconst 1, 1) := by decide +kernel
theorem d9_3 : decode method_2_code 3 = .ok (.iadd, 1) := by decide +kernel
theorem d9_4 : decode method_2_code 4 = .ok (.isub, 1) := by decide +kernel
theorem d9_5 : decode method_2_code 5 = .ok (.istore_n 3, 1) := by decide +kernel
theorem d9_6 : decode method_2_code 6 = .ok (.iload_n 3, 1) := by decide +kernel
theorem d9_7 : decode method_2_code 7 = .ok (.ifCond .ge 8, 3) := by decide +kernel
theorem d9_10 : decode method_2_code 10 = .ok (.iload_n 3, 1) := by decide +kernel
theorem d9_11 : decode method_2_code 11 = .ok (.ldc 7, 2) := by decide +kernel
theorem d9_13 : decode method_2_code 13 = .ok (.iadd, 1) := by decide +kernel
theorem d9_14 : decode method_2_code 14 = .ok (.istore_n 3, 1) := by decide +kernel
theorem d9_15 : decode method_2_code 15 = .ok (.iload_n 3, 1) := by decide +kernel
theorem d9_16 : decode method_2_code 16 = .ok (.iload_n 2, 1) := by decide +kernel
theorem d9_17 : decode method_2_code 17 = .ok (.if_icmp .le 11, 3) := by decide +kernel
theorem d9_20 : decode method_2_code 20 = .ok (.iload_n 3, 1) := by decide +kernel
theorem d9_21 : decode method_2_code 21 = .ok (.ldc 7, 2) := by decide +kernel
theorem d9_23 : decode method_2_code 23 = .ok (.iload_n 2, 1) := by decide +kernel
theorem d9_24 : decode method_2_code 24 = .ok (.isub, 1) := by decide +kernel
theorem d9_25 : decode method_2_code 25 = .ok (.if_icmp .lt 7, 3) := by decide +kernel
theorem d9_32 : decode method_2_code 32 = .ok (.iconst 0, 1) := by decide +kernel
theorem d9_28 : decode method_2_code 28 = .ok (.iconst 1, 1) := by decide +kernel
theorem d9_29 : decode method_2_code 29 = .ok (.goto 4, 3) := by decide +kernel
theorem d9_33 : decode method_2_code 33 = .ok (.ireturn, 1) := by decide +kernel
def v9_14 (p0 : Int32) (p1 : Int32) (p2 : Int32) : Int32 := ((p1 - (p0 + (1 : Int32))) + (65536 : Int32))
def v9_15_3 (p0 : Int32) (p1 : Int32) (p2 : Int32) : Int32 := (if (p1 - (p0 + (1 : Int32))) < (0 : Int32) then (v9_14 p0 p1 p2) else (p1 - (p0 + (1 : Int32))))
def f9 (p0 : Int32) (p1 : Int32) (p2 : Int32) : Int32 := nar .boolean (if p2 < (v9_15_3 p0 p1 p2) then (if (v9_15_3 p0 p1 p2) < ((65536 : Int32) - p2) then (0 : Int32) else (1 : Int32)) else (1 : Int32))
theorem pn_com_example_lanternwire_lanternwire_protocol_SequenceWindowAcceptsRequestPinLaw : plainName "com/example/lanternwire/lanternwire/protocol/SequenceWindowAcceptsRequestPinLaw" = true := by first | (simp [plainName, overriddenIn]; done) | decide +kernel
theorem ef_9 (m : MethodId) (x0 : Int32) (x1 : Int32) (x2 : Int32) : entryFrame m #[(.int x0), (.int x1), (.int x2)] 4 = mkF m 0 #[.val (.int x0), .val (.int x1), .val (.int x2), .unset] [] := by first | (simp [entryFrame, mkF, argsToLocals, Value.category]; done) | rfl
def Q9 (Z : State) (p0 : Int32) (p1 : Int32) (p2 : Int32) (h0 : Heap) (n0 : Nat) (v : Option Value) (h : Heap) (L : List Loc) : Prop := v = some (.int (f9 p0 p1 p2)) ∧ Fr n0 L ∧ h = h0
set_option maxRecDepth 65536 in
set_option maxHeartbeats 40000000 in
theorem rm9 (l : Launch) (Z : State) (aZ : Array Value) (hw : ∀ d ∈ tables_1, d.before aZ Z = true) (ws : List Jvm.Cond) (p0 : Int32) (p1 : Int32) (p2 : Int32) (h0 : Heap) (n0 : Nat) (Z0 : n0 ≤ h0.size) :
    MetFree l (⟨"com/example/lanternwire/lanternwire/protocol/SequenceWindowAcceptsRequestPinLaw", "expected", "(III)Z"⟩ : MethodName) (head1 (Jvm.Cond.code (⟨"com/example/lanternwire/lanternwire/protocol/SequenceWindowAcceptsRequestPinLaw", "expected", "(III)Z"⟩ : MethodName) method_2_code 4 (some .boolean) :: ws) ({ frames := 0, cells := 0, slots := 0, locals := 0 } : Room)) (fun a U => a = #[(.int p0), (.int p1), (.int p2)] ∧ Z.Warmed39 U.vm ∧ U.heap = h0) (fun _ _ _ _ _ => True) (fun _ U o U' => ∃ v L, o = .returned v ∧ Q9 Z p0 p1 p2 h0 n0 v U'.heap L ∧ FrameEnd U o U' L ({ frames := 0, cells := 0, slots := 0, locals := 0 } : Room).cells ({ frames := 0, cells := 0, slots := 0, locals := 0 } : Room).slots) := by
  refine MetFree.of_bodySF (plainFor_of_name pn_com_example_lanternwire_lanternwire_protocol_SequenceWindowAcceptsRequestPinLaw) hisR ?_
  intro p e s m args below meth c s₁ Bd hml0 hP hK
  obtain ⟨rfl, hZ, hh⟩ := hP
  have hx := Bd.exec
  have hby := Bd.bytes
  have hlk : meth.locks = false := BodyLoose.notSynchronized Bd
  have hml : c.maxLocals = 4 := hml0
  have hown : s.vm.findClass "com/example/lanternwire/lanternwire/protocol/SequenceWindowAcceptsRequestPinLaw" = some m.cls := findClass_of_methodNamed Bd.named
  have hnm := (name_of_methodNamed Bd.named Bd.method).1
  have X0 : Stand p l e ({ frames := 0, cells := 0, slots := 0, locals := 0 } : Room) s m #[(.int p0), (.int p1), (.int p2)] below meth c s₁ [] 0 0 := Stand.of_body Bd
  have e0 : s₁.heap = h0 := by rw [← hh, Bd.state]; rfl
  have N0 := Fr.nil n0
  show OEnd p e below s s₁ (entryFrame m #[(.int p0), (.int p1), (.int p2)] 4) (Q9 Z p0 p1 p2 h0 n0) ({ frames := 0, cells := 0, slots := 0, locals := 0 } : Room).cells ({ frames := 0, cells := 0, slots := 0, locals := 0 } : Room).slots
  refine OEnd.go (g' := (mkF m 0 #[.val (.int p0), .val (.int p1), .val (.int p2), .unset] [])) (fun _ k => castTop (ef_9 m p0 p1 p2) k) ?_
  refine OEnd.go (T' := s₁) (g' := (mkF m 7 #[.val (.int p0), .val (.int p1), .val (.int p2), .val (.int (p1 - (p0 + (1 : Int32))))] [(.int (p1 - (p0 + (1 : Int32))))])) (fun t k => ?_) ?_
  · show Steps p.tables e below (s₁.setTop (mkF m 0 #[.val (.int p0), .val (.int p1), .val (.int p2), .unset] [])) t
    refine XS.iloadN X0.here hx rfl (hb hby d9_0) rfl ?_
    show Steps p.tables e below (s₁.setTop (mkF m 1 #[.val (.int p0), .val (.int p1), .val (.int p2), .unset] [(.int p1)])) t
    refine XS.iloadN X0.here hx rfl (hb hby d9_1) rfl ?_
    show Steps p.tables e below (s₁.setTop (mkF m 2 #[.val (.int p0), .val (.int p1), .val (.int p2), .unset] [(.int p0), (.int p1)])) t
    refine XS.iconst X0.here hx rfl (hb hby d9_2) ?_
    show Steps p.tables e below (s₁.setTop (mkF m 3 #[.val (.int p0), .val (.int p1), .val (.int p2), .unset] [(.int (1 : Int32)), (.int p0), (.int p1)])) t
    refine XS.iadd X0.here hx rfl (hb hby d9_3) rfl ?_
    show Steps p.tables e below (s₁.setTop (mkF m 4 #[.val (.int p0), .val (.int p1), .val (.int p2), .unset] [(.int (p0 + (1 : Int32))), (.int p1)])) t
    refine XS.isub X0.here hx rfl (hb hby d9_4) rfl ?_
    show Steps p.tables e below (s₁.setTop (mkF m 5 #[.val (.int p0), .val (.int p1), .val (.int p2), .unset] [(.int (p1 - (p0 + (1 : Int32))))])) t
    refine XS.istoreN X0.here hx rfl (hb hby d9_5) rfl (l' := #[.val (.int p0), .val (.int p1), .val (.int p2), .val (.int (p1 - (p0 + (1 : Int32))))]) rfl ?_
    show Steps p.tables e below (s₁.setTop (mkF m 6 #[.val (.int p0), .val (.int p1), .val (.int p2), .val (.int (p1 - (p0 + (1 : Int32))))] [])) t
    refine XS.iloadN X0.here hx rfl (hb hby d9_6) rfl ?_
    show Steps p.tables e below (s₁.setTop (mkF m 7 #[.val (.int p0), .val (.int p1), .val (.int p2), .val (.int (p1 - (p0 + (1 : Int32))))] [(.int (p1 - (p0 + (1 : Int32))))])) t
    exact k
  refine OEnd.go (T' := s₁) (g' := (mkF m 15 #[.val (.int p0), .val (.int p1), .val (.int p2), .val (.int (if (p1 - (p0 + (1 : Int32))) < (0 : Int32) then (v9_14 p0 p1 p2) else (p1 - (p0 + (1 : Int32)))))] [])) (fun t k => ?_) ?_
  · show Steps p.tables e below (s₁.setTop (mkF m 7 #[.val (.int p0), .val (.int p1), .val (.int p2), .val (.int (p1 - (p0 + (1 : Int32))))] [(.int (p1 - (p0 + (1 : Int32))))])) t
    by_cases hc1 : (p1 - (p0 + (1 : Int32))) < (0 : Int32)
    · skip
      refine XS.ifNo X0.here hx rfl (hb hby d9_7) rfl ((if0 _ _).trans (tlt (hc1)).2.1) ?_
      show Steps p.tables e below (s₁.setTop (mkF m 10 #[.val (.int p0), .val (.int p1), .val (.int p2), .val (.int (p1 - (p0 + (1 : Int32))))] [])) t
      refine SGo.go (T' := s₁) (g' := (mkF m 15 #[.val (.int p0), .val (.int p1), .val (.int p2), .val (.int (v9_14 p0 p1 p2))] [])) (fun t k => ?_) ?_
      · show Steps p.tables e below (s₁.setTop (mkF m 10 #[.val (.int p0), .val (.int p1), .val (.int p2), .val (.int (p1 - (p0 + (1 : Int32))))] [])) t
        refine XS.iloadN X0.here hx rfl (hb hby d9_10) rfl ?_
        show Steps p.tables e below (s₁.setTop (mkF m 11 #[.val (.int p0), .val (.int p1), .val (.int p2), .val (.int (p1 - (p0 + (1 : Int32))))] [(.int (p1 - (p0 + (1 : Int32))))])) t
        refine X0.ldcInt hx hown (mvT hZ (hw _ (List.mem_of_getElem? (i := 41) rfl))) (g := (mkF m 11 #[.val (.int p0), .val (.int p1), .val (.int p2), .val (.int (p1 - (p0 + (1 : Int32))))] [(.int (p1 - (p0 + (1 : Int32))))])) rfl (hb hby d9_11) _ ?_
        show Steps p.tables e below (s₁.setTop (mkF m 13 #[.val (.int p0), .val (.int p1), .val (.int p2), .val (.int (p1 - (p0 + (1 : Int32))))] [(.int (65536 : Int32)), (.int (p1 - (p0 + (1 : Int32))))])) t
        refine XS.iadd X0.here hx rfl (hb hby d9_13) rfl ?_
        show Steps p.tables e below (s₁.setTop (mkF m 14 #[.val (.int p0), .val (.int p1), .val (.int p2), .val (.int (p1 - (p0 + (1 : Int32))))] [(.int ((p1 - (p0 + (1 : Int32))) + (65536 : Int32)))])) t
        refine XS.istoreN X0.here hx rfl (hb hby d9_14) rfl (l' := #[.val (.int p0), .val (.int p1), .val (.int p2), .val (.int (v9_14 p0 p1 p2))]) rfl ?_
        show Steps p.tables e below (s₁.setTop (mkF m 15 #[.val (.int p0), .val (.int p1), .val (.int p2), .val (.int (v9_14 p0 p1 p2))] [])) t
        exact k
      exact (own_k (f := fun (z : Int32) => mkF m 15 #[.val (.int p0), .val (.int p1), .val (.int p2), .val (.int z)] []) (if_pos hc1) k)
    · skip
      refine XS.ifYes X0.here hx rfl (pc0 := 7) (pc' := 15) rfl (hb hby d9_7) rfl ((if0 _ _).trans (flt (hc1)).2.1) (by decide) (by decide) ?_
      show Steps p.tables e below (s₁.setTop (mkF m 15 #[.val (.int p0), .val (.int p1), .val (.int p2), .val (.int (p1 - (p0 + (1 : Int32))))] [])) t
      exact (own_k (f := fun (z : Int32) => mkF m 15 #[.val (.int p0), .val (.int p1), .val (.int p2), .val (.int z)] []) (if_neg hc1) k)
  refine OEnd.go (T' := s₁) (g' := (mkF m 17 #[.val (.int p0), .val (.int p1), .val (.int p2), .val (.int (v9_15_3 p0 p1 p2))] [(.int p2), (.int (v9_15_3 p0 p1 p2))])) (fun t k => ?_) ?_
  · show Steps p.tables e below (s₁.setTop (mkF m 15 #[.val (.int p0), .val (.int p1), .val (.int p2), .val (.int (v9_15_3 p0 p1 p2))] [])) t
    refine XS.iloadN X0.here hx rfl (hb hby d9_15) rfl ?_
    show Steps p.tables e below (s₁.setTop (mkF m 16 #[.val (.int p0), .val (.int p1), .val (.int p2), .val (.int (v9_15_3 p0 p1 p2))] [(.int (v9_15_3 p0 p1 p2))])) t
    refine XS.iloadN X0.here hx rfl (hb hby d9_16) rfl ?_
    show Steps p.tables e below (s₁.setTop (mkF m 17 #[.val (.int p0), .val (.int p1), .val (.int p2), .val (.int (v9_15_3 p0 p1 p2))] [(.int p2), (.int (v9_15_3 p0 p1 p2))])) t
    exact k
  refine OEnd.go (T' := s₁) (g' := (mkF m 33 #[.val (.int p0), .val (.int p1), .val (.int p2), .val (.int (v9_15_3 p0 p1 p2))] [(.int (if p2 < (v9_15_3 p0 p1 p2) then (if (v9_15_3 p0 p1 p2) < ((65536 : Int32) - p2) then (0 : Int32) else (1 : Int32)) else (1 : Int32)))])) (fun t k => ?_) ?_
  · show Steps p.tables e below (s₁.setTop (mkF m 17 #[.val (.int p0), .val (.int p1), .val (.int p2), .val (.int (v9_15_3 p0 p1 p2))] [(.int p2), (.int (v9_15_3 p0 p1 p2))])) t
    by_cases hc2 : p2 < (v9_15_3 p0 p1 p2)
    · skip
      refine XS.icmpNo X0.here hx rfl (hb hby d9_17) rfl (tlt (hc2)).2.2.2 ?_
      show Steps p.tables e below (s₁.setTop (mkF m 20 #[.val (.int p0), .val (.int p1), .val (.int p2), .val (.int (v9_15_3 p0 p1 p2))] [])) t
      refine SGo.go (T' := s₁) (g' := (mkF m 25 #[.val (.int p0), .val (.int p1), .val (.int p2), .val (.int (v9_15_3 p0 p1 p2))] [(.int ((65536 : Int32) - p2)), (.int (v9_15_3 p0 p1 p2))])) (fun t k => ?_) ?_
      · show Steps p.tables e below (s₁.setTop (mkF m 20 #[.val (.int p0), .val (.int p1), .val (.int p2), .val (.int (v9_15_3 p0 p1 p2))] [])) t
        refine XS.iloadN X0.here hx rfl (hb hby d9_20) rfl ?_
        show Steps p.tables e below (s₁.setTop (mkF m 21 #[.val (.int p0), .val (.int p1), .val (.int p2), .val (.int (v9_15_3 p0 p1 p2))] [(.int (v9_15_3 p0 p1 p2))])) t
        refine X0.ldcInt hx hown (mvT hZ (hw _ (List.mem_of_getElem? (i := 41) rfl))) (g := (mkF m 21 #[.val (.int p0), .val (.int p1), .val (.int p2), .val (.int (v9_15_3 p0 p1 p2))] [(.int (v9_15_3 p0 p1 p2))])) rfl (hb hby d9_21) _ ?_
        show Steps p.tables e below (s₁.setTop (mkF m 23 #[.val (.int p0), .val (.int p1), .val (.int p2), .val (.int (v9_15_3 p0 p1 p2))] [(.int (65536 : Int32)), (.int (v9_15_3 p0 p1 p2))])) t
        refine XS.iloadN X0.here hx rfl (hb hby d9_23) rfl ?_
        show Steps p.tables e below (s₁.setTop (mkF m 24 #[.val (.int p0), .val (.int p1), .val (.int p2), .val (.int (v9_15_3 p0 p1 p2))] [(.int p2), (.int (65536 : Int32)), (.int (v9_15_3 p0 p1 p2))])) t
        refine XS.isub X0.here hx rfl (hb hby d9_24) rfl ?_
        show Steps p.tables e below (s₁.setTop (mkF m 25 #[.val (.int p0), .val (.int p1), .val (.int p2), .val (.int (v9_15_3 p0 p1 p2))] [(.int ((65536 : Int32) - p2)), (.int (v9_15_3 p0 p1 p2))])) t
        exact k
      by_cases hc3 : (v9_15_3 p0 p1 p2) < ((65536 : Int32) - p2)
      · skip
        refine XS.icmpYes X0.here hx rfl (pc0 := 25) (pc' := 32) rfl (hb hby d9_25) rfl (tlt (hc3)).1 (by decide) (by decide) ?_
        show Steps p.tables e below (s₁.setTop (mkF m 32 #[.val (.int p0), .val (.int p1), .val (.int p2), .val (.int (v9_15_3 p0 p1 p2))] [])) t
        refine SGo.go (T' := s₁) (g' := (mkF m 33 #[.val (.int p0), .val (.int p1), .val (.int p2), .val (.int (v9_15_3 p0 p1 p2))] [(.int (0 : Int32))])) (fun t k => ?_) ?_
        · show Steps p.tables e below (s₁.setTop (mkF m 32 #[.val (.int p0), .val (.int p1), .val (.int p2), .val (.int (v9_15_3 p0 p1 p2))] [])) t
          refine XS.iconst X0.here hx rfl (hb hby d9_32) ?_
          show Steps p.tables e below (s₁.setTop (mkF m 33 #[.val (.int p0), .val (.int p1), .val (.int p2), .val (.int (v9_15_3 p0 p1 p2))] [(.int (0 : Int32))])) t
          exact k
        exact (own_k (f := fun (z : Int32) => mkF m 33 #[.val (.int p0), .val (.int p1), .val (.int p2), .val (.int (v9_15_3 p0 p1 p2))] [(.int z)]) ((if_pos hc2).trans (if_pos hc3)) k)
      · skip
        refine XS.icmpNo X0.here hx rfl (hb hby d9_25) rfl (flt (hc3)).1 ?_
        show Steps p.tables e below (s₁.setTop (mkF m 28 #[.val (.int p0), .val (.int p1), .val (.int p2), .val (.int (v9_15_3 p0 p1 p2))] [])) t
        refine SGo.go (T' := s₁) (g' := (mkF m 33 #[.val (.int p0), .val (.int p1), .val (.int p2), .val (.int (v9_15_3 p0 p1 p2))] [(.int (1 : Int32))])) (fun t k => ?_) ?_
        · show Steps p.tables e below (s₁.setTop (mkF m 28 #[.val (.int p0), .val (.int p1), .val (.int p2), .val (.int (v9_15_3 p0 p1 p2))] [])) t
          refine XS.iconst X0.here hx rfl (hb hby d9_28) ?_
          show Steps p.tables e below (s₁.setTop (mkF m 29 #[.val (.int p0), .val (.int p1), .val (.int p2), .val (.int (v9_15_3 p0 p1 p2))] [(.int (1 : Int32))])) t
          refine XS.goto X0.here hx rfl (pc0 := 29) (pc' := 33) rfl (hb hby d9_29) (by decide) (by decide) ?_
          show Steps p.tables e below (s₁.setTop (mkF m 33 #[.val (.int p0), .val (.int p1), .val (.int p2), .val (.int (v9_15_3 p0 p1 p2))] [(.int (1 : Int32))])) t
          exact k
        exact (own_k (f := fun (z : Int32) => mkF m 33 #[.val (.int p0), .val (.int p1), .val (.int p2), .val (.int (v9_15_3 p0 p1 p2))] [(.int z)]) ((if_pos hc2).trans (if_neg hc3)) k)
    · skip
      refine XS.icmpYes X0.here hx rfl (pc0 := 17) (pc' := 28) rfl (hb hby d9_17) rfl (flt (hc2)).2.2.2 (by decide) (by decide) ?_
      show Steps p.tables e below (s₁.setTop (mkF m 28 #[.val (.int p0), .val (.int p1), .val (.int p2), .val (.int (v9_15_3 p0 p1 p2))] [])) t
      refine SGo.go (T' := s₁) (g' := (mkF m 33 #[.val (.int p0), .val (.int p1), .val (.int p2), .val (.int (v9_15_3 p0 p1 p2))] [(.int (1 : Int32))])) (fun t k => ?_) ?_
      · show Steps p.tables e below (s₁.setTop (mkF m 28 #[.val (.int p0), .val (.int p1), .val (.int p2), .val (.int (v9_15_3 p0 p1 p2))] [])) t
        refine XS.iconst X0.here hx rfl (hb hby d9_28) ?_
        show Steps p.tables e below (s₁.setTop (mkF m 29 #[.val (.int p0), .val (.int p1), .val (.int p2), .val (.int (v9_15_3 p0 p1 p2))] [(.int (1 : Int32))])) t
        refine XS.goto X0.here hx rfl (pc0 := 29) (pc' := 33) rfl (hb hby d9_29) (by decide) (by decide) ?_
        show Steps p.tables e below (s₁.setTop (mkF m 33 #[.val (.int p0), .val (.int p1), .val (.int p2), .val (.int (v9_15_3 p0 p1 p2))] [(.int (1 : Int32))])) t
        exact k
      exact (own_k (f := fun (z : Int32) => mkF m 33 #[.val (.int p0), .val (.int p1), .val (.int p2), .val (.int (v9_15_3 p0 p1 p2))] [(.int z)]) (if_neg hc2) k)
  exact OEnd.nar X0 hx (t := .boolean) Bd.returns (by simp) hlk (hb hby d9_33) ⟨rfl, N0, e0⟩ (by decide) (by decide)
theorem pd__I_V : parseMethodDescriptor "(I)V" = some ⟨[.int], none⟩ := by decide +kernel
theorem pd__II_Z : parseMethodDescriptor "(II)Z" = some ⟨[.int, .int], some .boolean⟩ := by decide +kernel
theorem pd__III_Z : parseMethodDescriptor "(III)Z" = some ⟨[.int, .int, .int], some .boolean⟩ := by decide +kernel
def v0_10 (p0 : Int32) (p1 : Int32) (p2 : Int32) (p3 : Int32) (p4 : Int32) : Int32 := (((p2 &&& (2147483647 : Int32)) - ((p2 &&& (2147483647 : Int32)) / (255 : Int32)) * (255 : Int32)) + (1 : Int32))
def v0_77 (p0 : Int32) (p1 : Int32) (p2 : Int32) (p3 : Int32) (p4 : Int32) : Int32 := (f4 (p0 &&& (65535 : Int32)) (p1 &&& (65535 : Int32)) (v0_10 p0 p1 p2 p3 p4))
def v0_34 (p0 : Int32) (p1 : Int32) (p2 : Int32) (p3 : Int32) (p4 : Int32) : Int32 := ((p3 &&& (1023 : Int32)) - (512 : Int32))
def v0_46 (p0 : Int32) (p1 : Int32) (p2 : Int32) (p3 : Int32) (p4 : Int32) : Int32 := ((((p0 &&& (65535 : Int32)) + (1 : Int32)) + (v0_34 p0 p1 p2 p3 p4)) &&& (65535 : Int32))
def v0_77x (p0 : Int32) (p1 : Int32) (p2 : Int32) (p3 : Int32) (p4 : Int32) : Int32 := (f4 (p0 &&& (65535 : Int32)) (v0_46 p0 p1 p2 p3 p4) (v0_10 p0 p1 p2 p3 p4))
def la0_0 (p0 : Int32) (p1 : Int32) (p2 : Int32) (p3 : Int32) (p4 : Int32) : Array Slot := #[.val (.int p0), .val (.int p1), .val (.int p2), .val (.int p3), .val (.int p4), .val (.int (v0_10 p0 p1 p2 p3 p4)), .val (.int (p0 &&& (65535 : Int32))), .unset, .unset, .unset]
def la0_1 (p0 : Int32) (p1 : Int32) (p2 : Int32) (p3 : Int32) (p4 : Int32) : Array Slot := #[.val (.int p0), .val (.int p1), .val (.int p2), .val (.int p3), .val (.int p4), .val (.int (v0_10 p0 p1 p2 p3 p4)), .val (.int (p0 &&& (65535 : Int32))), .val (.int (p1 &&& (65535 : Int32))), .unset, .unset]
def la0_2 (p0 : Int32) (p1 : Int32) (p2 : Int32) (p3 : Int32) (p4 : Int32) (b0_57 : Addr) : Array Slot := #[.val (.int p0), .val (.int p1), .val (.int p2), .val (.int p3), .val (.int p4), .val (.int (v0_10 p0 p1 p2 p3 p4)), .val (.int (p0 &&& (65535 : Int32))), .val (.int (p1 &&& (65535 : Int32))), .val (.ref b0_57), .unset]
def la0_3 (p0 : Int32) (p1 : Int32) (p2 : Int32) (p3 : Int32) (p4 : Int32) (b0_57 : Addr) : Array Slot := #[.val (.int p0), .val (.int p1), .val (.int p2), .val (.int p3), .val (.int p4), .val (.int (v0_10 p0 p1 p2 p3 p4)), .val (.int (p0 &&& (65535 : Int32))), .val (.int (p1 &&& (65535 : Int32))), .val (.ref b0_57), .val (.int (v0_77 p0 p1 p2 p3 p4))]
def la0_4 (p0 : Int32) (p1 : Int32) (p2 : Int32) (p3 : Int32) (p4 : Int32) : Array Slot := #[.val (.int p0), .val (.int p1), .val (.int p2), .val (.int p3), .val (.int p4), .val (.int (v0_10 p0 p1 p2 p3 p4)), .val (.int (p0 &&& (65535 : Int32))), .unset, .val (.int (v0_34 p0 p1 p2 p3 p4)), .unset]
def la0_5 (p0 : Int32) (p1 : Int32) (p2 : Int32) (p3 : Int32) (p4 : Int32) : Array Slot := #[.val (.int p0), .val (.int p1), .val (.int p2), .val (.int p3), .val (.int p4), .val (.int (v0_10 p0 p1 p2 p3 p4)), .val (.int (p0 &&& (65535 : Int32))), .val (.int (v0_46 p0 p1 p2 p3 p4)), .val (.int (v0_34 p0 p1 p2 p3 p4)), .unset]
def la0_6 (p0 : Int32) (p1 : Int32) (p2 : Int32) (p3 : Int32) (p4 : Int32) (b0_57 : Addr) : Array Slot := #[.val (.int p0), .val (.int p1), .val (.int p2), .val (.int p3), .val (.int p4), .val (.int (v0_10 p0 p1 p2 p3 p4)), .val (.int (p0 &&& (65535 : Int32))), .val (.int (v0_46 p0 p1 p2 p3 p4)), .val (.ref b0_57), .unset]
def la0_7 (p0 : Int32) (p1 : Int32) (p2 : Int32) (p3 : Int32) (p4 : Int32) (b0_57 : Addr) : Array Slot := #[.val (.int p0), .val (.int p1), .val (.int p2), .val (.int p3), .val (.int p4), .val (.int (v0_10 p0 p1 p2 p3 p4)), .val (.int (p0 &&& (65535 : Int32))), .val (.int (v0_46 p0 p1 p2 p3 p4)), .val (.ref b0_57), .val (.int (v0_77x p0 p1 p2 p3 p4))]
def f0 (p0 : Int32) (p1 : Int32) (p2 : Int32) (p3 : Int32) (p4 : Int32) : Int32 := (if (p4 &&& (1 : Int32)) = (0 : Int32) then (if (v0_77 p0 p1 p2 p3 p4) = (f9 (p0 &&& (65535 : Int32)) (p1 &&& (65535 : Int32)) (v0_10 p0 p1 p2 p3 p4)) then (1 : Int32) else (0 : Int32)) else (if (v0_77x p0 p1 p2 p3 p4) = (f9 (p0 &&& (65535 : Int32)) (v0_46 p0 p1 p2 p3 p4) (v0_10 p0 p1 p2 p3 p4)) then (1 : Int32) else (0 : Int32)))
theorem own_rem (x y : Int32) (d : Int) (hy : y.toInt = d) : (0 ≤ x.toInt → (x - (x / y) * y).toInt = x.toInt % d) ∧ (x.toInt < 0 → (x - (x / y) * y).toInt = -((-x.toInt) % d)) := by
  rw [rem_toInt, hy]
  exact tr _ _
theorem own_n0 : nar .boolean (0 : Int32) = 0 := by decide
theorem own_n1 : nar .boolean (1 : Int32) = 1 := by decide
theorem own_lt (x y : Int32) : x < y ↔ x.toInt < y.toInt := Int32.lt_iff_toInt_lt
theorem own_eq (x y : Int32) : x = y ↔ x.toInt = y.toInt := Int32.toInt_inj.symm
theorem own_four (x : Int32) : (x &&& (3 : Int32)) = 0 ∨ (x &&& (3 : Int32)) = 1 ∨ (x &&& (3 : Int32)) = 2 ∨ (x &&& (3 : Int32)) = 3 := by
  have h := c_mask x 3 2 (by decide) (by decide)
  have e0 : (0 : Int32).toInt = 0 := by decide
  have e1 : (1 : Int32).toInt = 1 := by decide
  have e2 : (2 : Int32).toInt = 2 := by decide
  have e3 : (3 : Int32).toInt = 3 := by decide
  simp only [own_eq, e0, e1, e2, e3, h]
  omega
theorem own_size (a b x d e : Int32) : (v0_10 a b x d e).toInt = (x.toInt % 2147483648) % 255 + 1 := by
  have h1 := c_mask x 2147483647 31 (by decide) (by decide)
  have h2 := (own_rem (x &&& 2147483647) 255 255 (by decide)).1
  have h3 := c_iadd ((x &&& 2147483647) - ((x &&& 2147483647) / 255) * 255) 1
  have e1 : (1 : Int32).toInt = 1 := by decide
  have b1 := (v0_10 a b x d e).toInt_lt
  have b2 := (v0_10 a b x d e).le_toInt
  unfold v0_10 at *
  have h4 := h2 (by omega)
  rw [e1, h4] at h3
  omega
theorem own_lo (a b c d e : Int32) : ¬ (v0_10 a b c d e < 1) := by
  have h := own_size a b c d e
  have e1 : (1 : Int32).toInt = 1 := by decide
  rw [own_lt, e1]
  omega
theorem own_hi (a b c d e : Int32) : ¬ (255 < v0_10 a b c d e) := by
  have h := own_size a b c d e
  have e1 : (255 : Int32).toInt = 255 := by decide
  rw [own_lt, e1]
  omega
theorem own_fm (d : Int32) : (f7 d 65536).toInt = d.toInt % 65536 := by
  have e0 : (0 : Int32).toInt = 0 := by decide
  have e1 : (65536 : Int32).toInt = 65536 := by decide
  obtain ⟨r1, r2⟩ := own_rem d 65536 65536 e1
  obtain ⟨-, x2, -, x4⟩ := c_xorS d 65536
  rw [e1] at x2 x4
  unfold f7
  by_cases h : d.toInt < 0
  · have hx : (d ^^^ 65536) < (0 : Int32) := by rw [own_lt, e0]; exact x2 h (by omega)
    have hr := r2 h
    rw [if_pos hx]
    by_cases hz : (d - (d / 65536) * 65536) = (0 : Int32)
    · rw [if_pos hz]
      rw [own_eq, e0, hr] at hz
      omega
    · rw [if_neg hz]
      rw [own_eq, e0, hr] at hz
      have a := c_iadd (d - (d / 65536) * 65536) 65536
      have b1 := ((d - (d / 65536) * 65536) + (65536 : Int32)).toInt_lt
      have b2 := ((d - (d / 65536) * 65536) + (65536 : Int32)).le_toInt
      rw [e1, hr] at a
      omega
  · have hx : ¬ ((d ^^^ 65536) < (0 : Int32)) := by rw [own_lt, e0]; have := x4 (by omega) (by omega); omega
    rw [if_neg hx]
    exact r1 (by omega)
set_option maxHeartbeats 8000000 in
theorem own_key {c r s : Int32} (c1 : 0 ≤ c.toInt) (c2 : c.toInt < 65536) (r1 : 0 ≤ r.toInt) (r2 : r.toInt < 65536) (s1 : 1 ≤ s.toInt) (s2 : s.toInt ≤ 255) : f4 c r s = f9 c r s := by
  have e0 : (0 : Int32).toInt = 0 := by decide
  have e1 : (1 : Int32).toInt = 1 := by decide
  have e2 : (65536 : Int32).toInt = 65536 := by decide
  have a1 := c_iadd c 1
  have b1 := (c + (1 : Int32)).toInt_lt
  have b2 := (c + (1 : Int32)).le_toInt
  rw [e1] at a1
  have a2 : (c + (1 : Int32)).toInt = c.toInt + 1 := by omega
  have n1 : (f5 c).toInt = (c.toInt + 1) % 65536 := by
    unfold f5
    rw [(own_rem (c + 1) 65536 65536 e2).1 (by omega), a2]
  have d1 := c_isub r (f5 c)
  have b3 := (r - f5 c).toInt_lt
  have b4 := (r - f5 c).le_toInt
  have F1 : (f6 (f5 c) r).toInt = (r.toInt - (c.toInt + 1)) % 65536 := by
    unfold f6
    rw [own_fm]
    omega
  have d2 := c_isub r (c + 1)
  have b5 := (r - (c + (1 : Int32))).toInt_lt
  have b6 := (r - (c + (1 : Int32))).le_toInt
  have d3 : (r - (c + (1 : Int32))).toInt = r.toInt - (c.toInt + 1) := by omega
  have V : (v9_15_3 c r s).toInt = (r.toInt - (c.toInt + 1)) % 65536 := by
    unfold v9_15_3 v9_14
    by_cases h : (r - (c + (1 : Int32))) < (0 : Int32)
    · rw [if_pos h]
      rw [own_lt, e0, d3] at h
      have a3 := c_iadd (r - (c + (1 : Int32))) 65536
      have b7 := ((r - (c + (1 : Int32))) + (65536 : Int32)).toInt_lt
      have b8 := ((r - (c + (1 : Int32))) + (65536 : Int32)).le_toInt
      rw [e2, d3] at a3
      omega
    · rw [if_neg h]
      rw [own_lt, e0, d3] at h
      omega
  have FV : f6 (f5 c) r = v9_15_3 c r s := by rw [own_eq, F1, V]
  unfold f4 f9
  rw [FV]
  generalize v9_15_3 c r s = v at *
  have d4 := c_isub 65536 v
  have b9 := ((65536 : Int32) - v).toInt_lt
  have b10 := ((65536 : Int32) - v).le_toInt
  have d5 := c_isub 65536 s
  have b11 := ((65536 : Int32) - s).toInt_lt
  have b12 := ((65536 : Int32) - s).le_toInt
  rw [e2] at d4 d5
  unfold f8
  by_cases h1 : s < v
  · rw [if_pos h1]
    by_cases h2 : v < ((65536 : Int32) - s)
    · rw [if_pos h2]
      rw [own_lt] at h1 h2
      rw [if_pos]
      rw [own_lt]
      by_cases h3 : ((65536 : Int32) - v) < v
      · rw [if_pos h3]; omega
      · rw [if_neg h3]; omega
    · rw [if_neg h2]
      rw [own_lt] at h1 h2
      rw [if_neg]
      rw [own_lt]
      by_cases h3 : ((65536 : Int32) - v) < v
      · rw [if_pos h3]; omega
      · rw [if_neg h3]
        rw [own_lt] at h3
        omega
  · rw [if_neg h1]
    rw [own_lt] at h1
    rw [if_neg]
    rw [own_lt]
    by_cases h3 : ((65536 : Int32) - v) < v
    · rw [if_pos h3]
      rw [own_lt] at h3
      omega
    · rw [if_neg h3]; omega
theorem own_plain (a b c d e : Int32) : f0 a b c d e = 1 := by
  have h1 := c_mask a 65535 16 (by decide) (by decide)
  have h2 := c_mask b 65535 16 (by decide) (by decide)
  have h3 : (v0_46 a b c d e).toInt = (((a &&& 65535) + 1) + (v0_34 a b c d e)).toInt % ((2 ^ 16 : Nat) : Int) := c_mask (((a &&& 65535) + 1) + (v0_34 a b c d e)) 65535 16 (by decide) (by decide)
  have h4 := own_size a b c d e
  unfold f0
  by_cases h : (e &&& (1 : Int32)) = 0
  · rw [if_pos h, if_pos]
    exact own_key (by omega) (by omega) (by omega) (by omega) (by omega) (by omega)
  · rw [if_neg h, if_pos]
    exact own_key (by omega) (by omega) (by omega) (by omega) (by omega) (by omega)
theorem ef_0 (m : MethodId) (x0 : Int32) (x1 : Int32) (x2 : Int32) (x3 : Int32) (x4 : Int32) : entryFrame m #[(.int x0), (.int x1), (.int x2), (.int x3), (.int x4)] maxLocals = mkF m 0 #[.val (.int x0), .val (.int x1), .val (.int x2), .val (.int x3), .val (.int x4), .unset, .unset, .unset, .unset, .unset] [] := by first | (simp [entryFrame, mkF, argsToLocals, Value.category, maxLocals]; done) | rfl
def Q0 (Z : State) (p0 : Int32) (p1 : Int32) (p2 : Int32) (p3 : Int32) (p4 : Int32) (h0 : Heap) (n0 : Nat) (v : Option Value) (h : Heap) (L : List Loc) : Prop := v = some (.int 1) ∧ Fr n0 L
set_option maxRecDepth 65536 in
set_option maxHeartbeats 40000000 in
theorem rm0 (l : Launch) (Z : State) (aZ : Array Value) (hw : ∀ d ∈ tables_1, d.before aZ Z = true) (ws : List Jvm.Cond) (p0 : Int32) (p1 : Int32) (p2 : Int32) (p3 : Int32) (p4 : Int32) (h0 : Heap) (n0 : Nat) (Z0 : n0 ≤ h0.size) :
    MetFree l x (head1 (Jvm.Cond.code x code maxLocals ret :: ws) room_1) (fun a U => a = #[(.int p0), (.int p1), (.int p2), (.int p3), (.int p4)] ∧ Z.Warmed39 U.vm ∧ U.heap = h0) (fun _ _ _ _ _ => True) (fun _ U o U' => ∃ v L, o = .returned v ∧ Q0 Z p0 p1 p2 p3 p4 h0 n0 v U'.heap L ∧ FrameEnd U o U' L room_1.cells room_1.slots) := by
  refine MetFree.of_bodySF (plainFor_of_name pn_com_example_lanternwire_lanternwire_protocol_SequenceWindowAcceptsRequestPinLaw) hisR ?_
  intro p e s m args below meth c s₁ Bd hml0 hP hK
  obtain ⟨rfl, hZ, hh⟩ := hP
  have hx := Bd.exec
  have hby := Bd.bytes
  have hlk : meth.locks = false := BodyLoose.notSynchronized Bd
  have hml : c.maxLocals = 10 := hml0
  have hown : s.vm.findClass "com/example/lanternwire/lanternwire/protocol/SequenceWindowAcceptsRequestPinLaw" = some m.cls := findClass_of_methodNamed Bd.named
  have hnm := (name_of_methodNamed Bd.named Bd.method).1
  have X0 : Stand p l e room_1 s m #[(.int p0), (.int p1), (.int p2), (.int p3), (.int p4)] below meth c s₁ [] 0 0 := Stand.of_body Bd
  have e0 : s₁.heap = h0 := by rw [← hh, Bd.state]; rfl
  have N0 := Fr.nil n0
  show OEnd p e below s s₁ (entryFrame m #[(.int p0), (.int p1), (.int p2), (.int p3), (.int p4)] maxLocals) (Q0 Z p0 p1 p2 p3 p4 h0 n0) room_1.cells room_1.slots
  refine OEnd.go (g' := (mkF m 0 #[.val (.int p0), .val (.int p1), .val (.int p2), .val (.int p3), .val (.int p4), .unset, .unset, .unset, .unset, .unset] [])) (fun _ k => castTop (ef_0 m p0 p1 p2 p3 p4) k) ?_
  refine OEnd.go (T' := s₁) (g' := (mkF m 22 (la0_0 p0 p1 p2 p3 p4) [(.int (p4 &&& (1 : Int32)))])) (fun t k => ?_) ?_
  · show Steps p.tables e below (s₁.setTop (mkF m 0 #[.val (.int p0), .val (.int p1), .val (.int p2), .val (.int p3), .val (.int p4), .unset, .unset, .unset, .unset, .unset] [])) t
    refine XS.iloadN X0.here hx rfl (hb hby at_0) rfl ?_
    show Steps p.tables e below (s₁.setTop (mkF m 1 #[.val (.int p0), .val (.int p1), .val (.int p2), .val (.int p3), .val (.int p4), .unset, .unset, .unset, .unset, .unset] [(.int p2)])) t
    refine X0.ldcInt hx hown (mvT hZ (hw _ (List.mem_of_getElem? (i := 0) rfl))) (g := (mkF m 1 #[.val (.int p0), .val (.int p1), .val (.int p2), .val (.int p3), .val (.int p4), .unset, .unset, .unset, .unset, .unset] [(.int p2)])) rfl (hb hby at_1) _ ?_
    show Steps p.tables e below (s₁.setTop (mkF m 3 #[.val (.int p0), .val (.int p1), .val (.int p2), .val (.int p3), .val (.int p4), .unset, .unset, .unset, .unset, .unset] [(.int (2147483647 : Int32)), (.int p2)])) t
    refine XS.iand X0.here hx rfl (hb hby at_3) rfl ?_
    show Steps p.tables e below (s₁.setTop (mkF m 4 #[.val (.int p0), .val (.int p1), .val (.int p2), .val (.int p3), .val (.int p4), .unset, .unset, .unset, .unset, .unset] [(.int (p2 &&& (2147483647 : Int32)))])) t
    refine XS.sipush X0.here hx rfl (hb hby at_4) ?_
    show Steps p.tables e below (s₁.setTop (mkF m 7 #[.val (.int p0), .val (.int p1), .val (.int p2), .val (.int p3), .val (.int p4), .unset, .unset, .unset, .unset, .unset] [(.int (255 : Int32)), (.int (p2 &&& (2147483647 : Int32)))])) t
    refine XS.irem X0.here hx rfl (hb hby at_7) rfl (by decide) ?_
    show Steps p.tables e below (s₁.setTop (mkF m 8 #[.val (.int p0), .val (.int p1), .val (.int p2), .val (.int p3), .val (.int p4), .unset, .unset, .unset, .unset, .unset] [(.int ((p2 &&& (2147483647 : Int32)) - ((p2 &&& (2147483647 : Int32)) / (255 : Int32)) * (255 : Int32)))])) t
    refine XS.iconst X0.here hx rfl (hb hby at_8) ?_
    show Steps p.tables e below (s₁.setTop (mkF m 9 #[.val (.int p0), .val (.int p1), .val (.int p2), .val (.int p3), .val (.int p4), .unset, .unset, .unset, .unset, .unset] [(.int (1 : Int32)), (.int ((p2 &&& (2147483647 : Int32)) - ((p2 &&& (2147483647 : Int32)) / (255 : Int32)) * (255 : Int32)))])) t
    refine XS.iadd X0.here hx rfl (hb hby at_9) rfl ?_
    show Steps p.tables e below (s₁.setTop (mkF m 10 #[.val (.int p0), .val (.int p1), .val (.int p2), .val (.int p3), .val (.int p4), .unset, .unset, .unset, .unset, .unset] [(.int (((p2 &&& (2147483647 : Int32)) - ((p2 &&& (2147483647 : Int32)) / (255 : Int32)) * (255 : Int32)) + (1 : Int32)))])) t
    refine XS.istore X0.here hx rfl (hb hby at_10) rfl (l' := #[.val (.int p0), .val (.int p1), .val (.int p2), .val (.int p3), .val (.int p4), .val (.int (v0_10 p0 p1 p2 p3 p4)), .unset, .unset, .unset, .unset]) rfl ?_
    show Steps p.tables e below (s₁.setTop (mkF m 12 #[.val (.int p0), .val (.int p1), .val (.int p2), .val (.int p3), .val (.int p4), .val (.int (v0_10 p0 p1 p2 p3 p4)), .unset, .unset, .unset, .unset] [])) t
    refine XS.iloadN X0.here hx rfl (hb hby at_12) rfl ?_
    show Steps p.tables e below (s₁.setTop (mkF m 13 #[.val (.int p0), .val (.int p1), .val (.int p2), .val (.int p3), .val (.int p4), .val (.int (v0_10 p0 p1 p2 p3 p4)), .unset, .unset, .unset, .unset] [(.int p0)])) t
    refine X0.ldcInt hx hown (mvT hZ (hw _ (List.mem_of_getElem? (i := 1) rfl))) (g := (mkF m 13 #[.val (.int p0), .val (.int p1), .val (.int p2), .val (.int p3), .val (.int p4), .val (.int (v0_10 p0 p1 p2 p3 p4)), .unset, .unset, .unset, .unset] [(.int p0)])) rfl (hb hby at_13) _ ?_
    show Steps p.tables e below (s₁.setTop (mkF m 15 #[.val (.int p0), .val (.int p1), .val (.int p2), .val (.int p3), .val (.int p4), .val (.int (v0_10 p0 p1 p2 p3 p4)), .unset, .unset, .unset, .unset] [(.int (65535 : Int32)), (.int p0)])) t
    refine XS.iand X0.here hx rfl (hb hby at_15) rfl ?_
    show Steps p.tables e below (s₁.setTop (mkF m 16 #[.val (.int p0), .val (.int p1), .val (.int p2), .val (.int p3), .val (.int p4), .val (.int (v0_10 p0 p1 p2 p3 p4)), .unset, .unset, .unset, .unset] [(.int (p0 &&& (65535 : Int32)))])) t
    refine XS.istore X0.here hx rfl (hb hby at_16) rfl (l' := (la0_0 p0 p1 p2 p3 p4)) rfl ?_
    show Steps p.tables e below (s₁.setTop (mkF m 18 (la0_0 p0 p1 p2 p3 p4) [])) t
    refine XS.iload X0.here hx rfl (hb hby at_18) rfl ?_
    show Steps p.tables e below (s₁.setTop (mkF m 20 (la0_0 p0 p1 p2 p3 p4) [(.int p4)])) t
    refine XS.iconst X0.here hx rfl (hb hby at_20) ?_
    show Steps p.tables e below (s₁.setTop (mkF m 21 (la0_0 p0 p1 p2 p3 p4) [(.int (1 : Int32)), (.int p4)])) t
    refine XS.iand X0.here hx rfl (hb hby at_21) rfl ?_
    show Steps p.tables e below (s₁.setTop (mkF m 22 (la0_0 p0 p1 p2 p3 p4) [(.int (p4 &&& (1 : Int32)))])) t
    exact k
  by_cases hc1 : (p4 &&& (1 : Int32)) = (0 : Int32)
  · skip
    refine OEnd.go (T' := s₁) (g' := (mkF m 51 (la0_0 p0 p1 p2 p3 p4) [])) (fun t k => ?_) ?_
    · show Steps p.tables e below (s₁.setTop (mkF m 22 (la0_0 p0 p1 p2 p3 p4) [(.int (p4 &&& (1 : Int32)))])) t
      refine XS.ifYes X0.here hx rfl (pc0 := 22) (pc' := 51) rfl (hb hby at_22) rfl ((if0 _ _).trans (teq (hc1)).1) (by decide) (by decide) ?_
      show Steps p.tables e below (s₁.setTop (mkF m 51 (la0_0 p0 p1 p2 p3 p4) [])) t
      exact k
    refine OEnd.go (T' := s₁) (g' := (mkF m 57 (la0_1 p0 p1 p2 p3 p4) [])) (fun t k => ?_) ?_
    · show Steps p.tables e below (s₁.setTop (mkF m 51 (la0_0 p0 p1 p2 p3 p4) [])) t
      refine XS.iloadN X0.here hx rfl (hb hby at_51) rfl ?_
      show Steps p.tables e below (s₁.setTop (mkF m 52 (la0_0 p0 p1 p2 p3 p4) [(.int p1)])) t
      refine X0.ldcInt hx hown (mvT hZ (hw _ (List.mem_of_getElem? (i := 1) rfl))) (g := (mkF m 52 (la0_0 p0 p1 p2 p3 p4) [(.int p1)])) rfl (hb hby at_52) _ ?_
      show Steps p.tables e below (s₁.setTop (mkF m 54 (la0_0 p0 p1 p2 p3 p4) [(.int (65535 : Int32)), (.int p1)])) t
      refine XS.iand X0.here hx rfl (hb hby at_54) rfl ?_
      show Steps p.tables e below (s₁.setTop (mkF m 55 (la0_0 p0 p1 p2 p3 p4) [(.int (p1 &&& (65535 : Int32)))])) t
      refine XS.istore X0.here hx rfl (hb hby at_55) rfl (l' := (la0_1 p0 p1 p2 p3 p4)) rfl ?_
      show Steps p.tables e below (s₁.setTop (mkF m 57 (la0_1 p0 p1 p2 p3 p4) [])) t
      exact k
    obtain ⟨T2, h2, X2, e2, E2, A2, D2, -, st2⟩ := newO X0 hx hZ hown (hw _ (List.mem_of_getElem? (i := 2) rfl)) (hw _ (List.mem_of_getElem? (i := 3) rfl)) (hw _ (List.mem_of_getElem? (i := 4) rfl)) e0 (g := (mkF m 57 (la0_1 p0 p1 p2 p3 p4) [])) rfl (hb hby at_57) (by decide) (by decide)
    obtain ⟨b0_57, g2⟩ : ∃ z, z = h0.size := ⟨_, rfl⟩
    rw [← g2] at A2 D2 st2
    have gle_b0_57 : n0 ≤ b0_57 := Nat.le_trans Z0 (Nat.le_of_eq g2.symm)
    have Z2 : n0 ≤ h2.size := Nat.le_trans Z0 E2.1
    have fc3 : Fld Z h2 b0_57 "com/example/lanternwire/lanternwire/protocol/SequenceWindow" "size" "I" (.int (0 : Int32)) := D2 (Or.inr (hw _ (List.mem_of_getElem? (i := 17) rfl))) (ty := .int) (by decide)
    refine OEnd.go (g' := (mkF m 60 (la0_1 p0 p1 p2 p3 p4) [(.ref b0_57)])) st2 ?_
    refine OEnd.go (T' := T2) (g' := (mkF m 63 (la0_1 p0 p1 p2 p3 p4) [(.int (v0_10 p0 p1 p2 p3 p4)), (.ref b0_57), (.ref b0_57)])) (fun t k => ?_) ?_
    · show Steps p.tables e below (T2.setTop (mkF m 60 (la0_1 p0 p1 p2 p3 p4) [(.ref b0_57)])) t
      refine XS.dup X2.here hx rfl (hb hby at_60) rfl rfl ?_
      show Steps p.tables e below (T2.setTop (mkF m 61 (la0_1 p0 p1 p2 p3 p4) [(.ref b0_57), (.ref b0_57)])) t
      refine XS.iload X2.here hx rfl (hb hby at_61) rfl ?_
      show Steps p.tables e below (T2.setTop (mkF m 63 (la0_1 p0 p1 p2 p3 p4) [(.int (v0_10 p0 p1 p2 p3 p4)), (.ref b0_57), (.ref b0_57)])) t
      exact k
    obtain ⟨_, _, ⟨T4, L4, k4, n4⟩, -, X4, ⟨Lc4, hQ4, l4, y4, z4⟩, st4⟩ := X2.specialBack hx (y := (⟨"com/example/lanternwire/lanternwire/protocol/SequenceWindow", "<init>", "(I)V"⟩ : MethodName)) rfl hown (mvT hZ (hw _ (List.mem_of_getElem? (i := 5) rfl))) (mvT hZ (hw _ (List.mem_of_getElem? (i := 6) rfl))) (mvT hZ (hw _ (List.mem_of_getElem? (i := 7) rfl))) (by decide) (backOf (W := 1) (rm1 l Z aZ hw [] b0_57 (v0_10 p0 p1 p2 p3 p4) h2 n0 Z2 fc3 A2 gle_b0_57 (own_lo p0 p1 p2 p3 p4) (own_hi p0 p1 p2 p3 p4)) hZ (hw _ (List.mem_of_getElem? (i := 7) rfl)) (hw _ (List.mem_of_getElem? (i := 4) rfl)) (by decide) (by decide)) (g := (mkF m 63 (la0_1 p0 p1 p2 p3 p4) [(.int (v0_10 p0 p1 p2 p3 p4)), (.ref b0_57), (.ref b0_57)])) rfl (by rw [hml]; rfl) (Steps.refl _) (a := b0_57) (argsL := [(.int (v0_10 p0 p1 p2 p3 p4))]) (rest := [(.ref b0_57)]) (lenOf pd__I_V rfl) rfl (by show 2 * 0 + _ ≤ _; exact Nat.le_of_eq rfl) (hb hby at_63) (fun _ _ => ⟨rfl, e2, (by decide : 1 + 0 ≤ _), (by decide : 1 + 0 ≤ _)⟩)
    dsimp only [Pt.U, Pt.locs, Pt.cells, Pt.slots] at X4 l4 y4 z4 st4 hQ4
    subst l4 y4 z4
    obtain ⟨rfl, N4q, u4_0, u4_1, u4_2⟩ := hQ4
    have N4 := Fr.app N0 N4q
    have Z4 : n0 ≤ T4.heap.size := Nat.le_trans Z2 u4_0.1
    refine OEnd.go (g' := (mkF m 66 (la0_1 p0 p1 p2 p3 p4) [(.ref b0_57)])) (fun _ k => st4.trans k) ?_
    refine OEnd.go (T' := T4) (g' := (mkF m 74 (la0_2 p0 p1 p2 p3 p4 b0_57) [(.int (p1 &&& (65535 : Int32))), (.int (p0 &&& (65535 : Int32))), (.ref b0_57)])) (fun t k => ?_) ?_
    · show Steps p.tables e below (T4.setTop (mkF m 66 (la0_1 p0 p1 p2 p3 p4) [(.ref b0_57)])) t
      refine XS.astore X4.here hx rfl (hb hby at_66) rfl rfl (l' := (la0_2 p0 p1 p2 p3 p4 b0_57)) rfl ?_
      show Steps p.tables e below (T4.setTop (mkF m 68 (la0_2 p0 p1 p2 p3 p4 b0_57) [])) t
      refine XS.aload X4.here hx rfl (hb hby at_68) rfl rfl ?_
      show Steps p.tables e below (T4.setTop (mkF m 70 (la0_2 p0 p1 p2 p3 p4 b0_57) [(.ref b0_57)])) t
      refine XS.iload X4.here hx rfl (hb hby at_70) rfl ?_
      show Steps p.tables e below (T4.setTop (mkF m 72 (la0_2 p0 p1 p2 p3 p4 b0_57) [(.int (p0 &&& (65535 : Int32))), (.ref b0_57)])) t
      refine XS.iload X4.here hx rfl (hb hby at_72) rfl ?_
      show Steps p.tables e below (T4.setTop (mkF m 74 (la0_2 p0 p1 p2 p3 p4 b0_57) [(.int (p1 &&& (65535 : Int32))), (.int (p0 &&& (65535 : Int32))), (.ref b0_57)])) t
      exact k
    obtain ⟨cq5, kq5, q5a, q5b, q5c⟩ := isOf hZ rfl u4_1
    obtain ⟨_, _, ⟨T5, L5, k5, n5⟩, -, X5, ⟨Lc5, hQ5, l5, y5, z5⟩, st5⟩ := X4.virtualBack hx (y := (⟨"com/example/lanternwire/lanternwire/protocol/SequenceWindow", "acceptsRequest", "(II)Z"⟩ : MethodName)) (z := (⟨"com/example/lanternwire/lanternwire/protocol/SequenceWindow", "acceptsRequest", "(II)Z"⟩ : MethodName)) hown (mvT hZ (hw _ (List.mem_of_getElem? (i := 18) rfl))) (mvT hZ (hw _ (List.mem_of_getElem? (i := 19) rfl))) (notFace_of_selects (args := #[]) (mvT hZ (hw _ (List.mem_of_getElem? (i := 21) rfl)))) (mvT hZ (hw _ (List.mem_of_getElem? (i := 21) rfl))) (mvT hZ (hw _ (List.mem_of_getElem? (i := 20) rfl))) (by decide) (backOf (W := 0) (rm4 l Z aZ hw [] b0_57 (p0 &&& (65535 : Int32)) (p1 &&& (65535 : Int32)) (v0_10 p0 p1 p2 p3 p4) T4.heap n0 Z4 u4_2) hZ (hw _ (List.mem_of_getElem? (i := 22) rfl)) (hw _ (List.mem_of_getElem? (i := 4) rfl)) (by decide) (by decide)) q5a q5c (g := (mkF m 74 (la0_2 p0 p1 p2 p3 p4 b0_57) [(.int (p1 &&& (65535 : Int32))), (.int (p0 &&& (65535 : Int32))), (.ref b0_57)])) rfl (by rw [hml]; rfl) (Steps.refl _) (argsL := [(.int (p0 &&& (65535 : Int32))), (.int (p1 &&& (65535 : Int32)))]) (rest := []) (lenOf pd__II_Z rfl) rfl (by show 2 * 0 + _ ≤ _; exact Nat.le_of_eq rfl) (hb hby at_74) (fun _ _ => ⟨rfl, rfl, (by decide : 1 + 0 ≤ _), (by decide : 1 + 0 ≤ _)⟩)
    dsimp only [Pt.U, Pt.locs, Pt.cells, Pt.slots] at X5 l5 y5 z5 st5 hQ5
    subst l5 y5 z5
    obtain ⟨rfl, N5q, e5⟩ := hQ5
    have N5 := Fr.app N4 N5q
    refine OEnd.go (g' := (mkF m 77 (la0_2 p0 p1 p2 p3 p4 b0_57) [(.int (f4 (p0 &&& (65535 : Int32)) (p1 &&& (65535 : Int32)) (v0_10 p0 p1 p2 p3 p4)))])) (fun _ k => st5.trans k) ?_
    refine OEnd.go (T' := T5) (g' := (mkF m 87 (la0_3 p0 p1 p2 p3 p4 b0_57) [(.int (v0_10 p0 p1 p2 p3 p4)), (.int (p1 &&& (65535 : Int32))), (.int (p0 &&& (65535 : Int32))), (.int (v0_77 p0 p1 p2 p3 p4))])) (fun t k => ?_) ?_
    · show Steps p.tables e below (T5.setTop (mkF m 77 (la0_2 p0 p1 p2 p3 p4 b0_57) [(.int (f4 (p0 &&& (65535 : Int32)) (p1 &&& (65535 : Int32)) (v0_10 p0 p1 p2 p3 p4)))])) t
      refine XS.istore X5.here hx rfl (hb hby at_77) rfl (l' := (la0_3 p0 p1 p2 p3 p4 b0_57)) rfl ?_
      show Steps p.tables e below (T5.setTop (mkF m 79 (la0_3 p0 p1 p2 p3 p4 b0_57) [])) t
      refine XS.iload X5.here hx rfl (hb hby at_79) rfl ?_
      show Steps p.tables e below (T5.setTop (mkF m 81 (la0_3 p0 p1 p2 p3 p4 b0_57) [(.int (v0_77 p0 p1 p2 p3 p4))])) t
      refine XS.iload X5.here hx rfl (hb hby at_81) rfl ?_
      show Steps p.tables e below (T5.setTop (mkF m 83 (la0_3 p0 p1 p2 p3 p4 b0_57) [(.int (p0 &&& (65535 : Int32))), (.int (v0_77 p0 p1 p2 p3 p4))])) t
      refine XS.iload X5.here hx rfl (hb hby at_83) rfl ?_
      show Steps p.tables e below (T5.setTop (mkF m 85 (la0_3 p0 p1 p2 p3 p4 b0_57) [(.int (p1 &&& (65535 : Int32))), (.int (p0 &&& (65535 : Int32))), (.int (v0_77 p0 p1 p2 p3 p4))])) t
      refine XS.iload X5.here hx rfl (hb hby at_85) rfl ?_
      show Steps p.tables e below (T5.setTop (mkF m 87 (la0_3 p0 p1 p2 p3 p4 b0_57) [(.int (v0_10 p0 p1 p2 p3 p4)), (.int (p1 &&& (65535 : Int32))), (.int (p0 &&& (65535 : Int32))), (.int (v0_77 p0 p1 p2 p3 p4))])) t
      exact k
    obtain ⟨_, _, ⟨T6, L6, k6, n6⟩, -, X6, ⟨Lc6, hQ6, l6, y6, z6⟩, st6⟩ := Jvm.LawKit.callS X5 hx (y := (⟨"com/example/lanternwire/lanternwire/protocol/SequenceWindowAcceptsRequestPinLaw", "expected", "(III)Z"⟩ : MethodName)) hown (mvT hZ (hw _ (List.mem_of_getElem? (i := 37) rfl))) (mvT hZ (hw _ (List.mem_of_getElem? (i := 38) rfl))) (mvT hZ (hw _ (List.mem_of_getElem? (i := 39) rfl))) (mvT hZ (hw _ (List.mem_of_getElem? (i := 40) rfl))) (by decide) (backOf (W := 1) (rm9 l Z aZ hw [] (p0 &&& (65535 : Int32)) (p1 &&& (65535 : Int32)) (v0_10 p0 p1 p2 p3 p4) T4.heap n0 Z4 ) hZ (hw _ (List.mem_of_getElem? (i := 40) rfl)) (hw _ (List.mem_of_getElem? (i := 39) rfl)) (by decide) (by decide)) (g := (mkF m 87 (la0_3 p0 p1 p2 p3 p4 b0_57) [(.int (v0_10 p0 p1 p2 p3 p4)), (.int (p1 &&& (65535 : Int32))), (.int (p0 &&& (65535 : Int32))), (.int (v0_77 p0 p1 p2 p3 p4))])) rfl (by rw [hml]; rfl) (argsL := [(.int (p0 &&& (65535 : Int32))), (.int (p1 &&& (65535 : Int32))), (.int (v0_10 p0 p1 p2 p3 p4))]) (rest := [(.int (v0_77 p0 p1 p2 p3 p4))]) (lenOf pd__III_Z rfl) rfl (by show 2 * 0 + _ ≤ _; exact Nat.le_of_eq rfl) (hb hby at_87) (fun _ _ => ⟨rfl, e5, (by decide : 1 + 0 ≤ _), (by decide : 1 + 0 ≤ _)⟩)
    dsimp only [Pt.U, Pt.locs, Pt.cells, Pt.slots] at X6 l6 y6 z6 st6 hQ6
    subst l6 y6 z6
    obtain ⟨rfl, N6q, e6⟩ := hQ6
    have N6 := Fr.app N5 N6q
    refine OEnd.go (g' := (mkF m 90 (la0_3 p0 p1 p2 p3 p4 b0_57) [(.int (f9 (p0 &&& (65535 : Int32)) (p1 &&& (65535 : Int32)) (v0_10 p0 p1 p2 p3 p4))), (.int (v0_77 p0 p1 p2 p3 p4))])) st6 ?_
    refine OEnd.go (T' := T6) (g' := (mkF m 98 (la0_3 p0 p1 p2 p3 p4 b0_57) [(.int (if (v0_77 p0 p1 p2 p3 p4) = (f9 (p0 &&& (65535 : Int32)) (p1 &&& (65535 : Int32)) (v0_10 p0 p1 p2 p3 p4)) then (1 : Int32) else (0 : Int32)))])) (fun t k => ?_) ?_
    · show Steps p.tables e below (T6.setTop (mkF m 90 (la0_3 p0 p1 p2 p3 p4 b0_57) [(.int (f9 (p0 &&& (65535 : Int32)) (p1 &&& (65535 : Int32)) (v0_10 p0 p1 p2 p3 p4))), (.int (v0_77 p0 p1 p2 p3 p4))])) t
      by_cases hc7 : (v0_77 p0 p1 p2 p3 p4) = (f9 (p0 &&& (65535 : Int32)) (p1 &&& (65535 : Int32)) (v0_10 p0 p1 p2 p3 p4))
      · skip
        refine XS.icmpNo X6.here hx rfl (hb hby at_90) rfl (teq (hc7)).2 ?_
        show Steps p.tables e below (T6.setTop (mkF m 93 (la0_3 p0 p1 p2 p3 p4 b0_57) [])) t
        refine SGo.go (T' := T6) (g' := (mkF m 98 (la0_3 p0 p1 p2 p3 p4 b0_57) [(.int (1 : Int32))])) (fun t k => ?_) ?_
        · show Steps p.tables e below (T6.setTop (mkF m 93 (la0_3 p0 p1 p2 p3 p4 b0_57) [])) t
          refine XS.iconst X6.here hx rfl (hb hby at_93) ?_
          show Steps p.tables e below (T6.setTop (mkF m 94 (la0_3 p0 p1 p2 p3 p4 b0_57) [(.int (1 : Int32))])) t
          refine XS.goto X6.here hx rfl (pc0 := 94) (pc' := 98) rfl (hb hby at_94) (by decide) (by decide) ?_
          show Steps p.tables e below (T6.setTop (mkF m 98 (la0_3 p0 p1 p2 p3 p4 b0_57) [(.int (1 : Int32))])) t
          exact k
        exact (own_k (f := fun (z : Int32) => mkF m 98 #[.val (.int p0), .val (.int p1), .val (.int p2), .val (.int p3), .val (.int p4), .val (.int (v0_10 p0 p1 p2 p3 p4)), .val (.int (p0 &&& (65535 : Int32))), .val (.int (p1 &&& (65535 : Int32))), .val (.ref b0_57), .val (.int (v0_77 p0 p1 p2 p3 p4))] [(.int z)]) (if_pos hc7) k)
      · skip
        refine XS.icmpYes X6.here hx rfl (pc0 := 90) (pc' := 97) rfl (hb hby at_90) rfl (feq (hc7)).2 (by decide) (by decide) ?_
        show Steps p.tables e below (T6.setTop (mkF m 97 (la0_3 p0 p1 p2 p3 p4 b0_57) [])) t
        refine SGo.go (T' := T6) (g' := (mkF m 98 (la0_3 p0 p1 p2 p3 p4 b0_57) [(.int (0 : Int32))])) (fun t k => ?_) ?_
        · show Steps p.tables e below (T6.setTop (mkF m 97 (la0_3 p0 p1 p2 p3 p4 b0_57) [])) t
          refine XS.iconst X6.here hx rfl (hb hby at_97) ?_
          show Steps p.tables e below (T6.setTop (mkF m 98 (la0_3 p0 p1 p2 p3 p4 b0_57) [(.int (0 : Int32))])) t
          exact k
        exact (own_k (f := fun (z : Int32) => mkF m 98 #[.val (.int p0), .val (.int p1), .val (.int p2), .val (.int p3), .val (.int p4), .val (.int (v0_10 p0 p1 p2 p3 p4)), .val (.int (p0 &&& (65535 : Int32))), .val (.int (p1 &&& (65535 : Int32))), .val (.ref b0_57), .val (.int (v0_77 p0 p1 p2 p3 p4))] [(.int z)]) (if_neg hc7) k)
    exact OEnd.nar X6 hx (t := .boolean) Bd.returns (by simp) hlk (hb hby at_98) ⟨(congrArg (fun z => some (Value.int (nar .boolean z))) (own_via (if_pos hc1) (own_plain p0 p1 p2 p3 p4))), N6⟩ (by decide) (by decide)
  · skip
    refine OEnd.go (T' := s₁) (g' := (mkF m 25 (la0_0 p0 p1 p2 p3 p4) [])) (fun t k => ?_) ?_
    · show Steps p.tables e below (s₁.setTop (mkF m 22 (la0_0 p0 p1 p2 p3 p4) [(.int (p4 &&& (1 : Int32)))])) t
      refine XS.ifNo X0.here hx rfl (hb hby at_22) rfl ((if0 _ _).trans (feq (hc1)).1) ?_
      show Steps p.tables e below (s₁.setTop (mkF m 25 (la0_0 p0 p1 p2 p3 p4) [])) t
      exact k
    refine OEnd.go (T' := s₁) (g' := (mkF m 57 (la0_5 p0 p1 p2 p3 p4) [])) (fun t k => ?_) ?_
    · show Steps p.tables e below (s₁.setTop (mkF m 25 (la0_0 p0 p1 p2 p3 p4) [])) t
      refine XS.iloadN X0.here hx rfl (hb hby at_25) rfl ?_
      show Steps p.tables e below (s₁.setTop (mkF m 26 (la0_0 p0 p1 p2 p3 p4) [(.int p3)])) t
      refine XS.sipush X0.here hx rfl (hb hby at_26) ?_
      show Steps p.tables e below (s₁.setTop (mkF m 29 (la0_0 p0 p1 p2 p3 p4) [(.int (1023 : Int32)), (.int p3)])) t
      refine XS.iand X0.here hx rfl (hb hby at_29) rfl ?_
      show Steps p.tables e below (s₁.setTop (mkF m 30 (la0_0 p0 p1 p2 p3 p4) [(.int (p3 &&& (1023 : Int32)))])) t
      refine XS.sipush X0.here hx rfl (hb hby at_30) ?_
      show Steps p.tables e below (s₁.setTop (mkF m 33 (la0_0 p0 p1 p2 p3 p4) [(.int (512 : Int32)), (.int (p3 &&& (1023 : Int32)))])) t
      refine XS.isub X0.here hx rfl (hb hby at_33) rfl ?_
      show Steps p.tables e below (s₁.setTop (mkF m 34 (la0_0 p0 p1 p2 p3 p4) [(.int ((p3 &&& (1023 : Int32)) - (512 : Int32)))])) t
      refine XS.istore X0.here hx rfl (hb hby at_34) rfl (l' := (la0_4 p0 p1 p2 p3 p4)) rfl ?_
      show Steps p.tables e below (s₁.setTop (mkF m 36 (la0_4 p0 p1 p2 p3 p4) [])) t
      refine XS.iload X0.here hx rfl (hb hby at_36) rfl ?_
      show Steps p.tables e below (s₁.setTop (mkF m 38 (la0_4 p0 p1 p2 p3 p4) [(.int (p0 &&& (65535 : Int32)))])) t
      refine XS.iconst X0.here hx rfl (hb hby at_38) ?_
      show Steps p.tables e below (s₁.setTop (mkF m 39 (la0_4 p0 p1 p2 p3 p4) [(.int (1 : Int32)), (.int (p0 &&& (65535 : Int32)))])) t
      refine XS.iadd X0.here hx rfl (hb hby at_39) rfl ?_
      show Steps p.tables e below (s₁.setTop (mkF m 40 (la0_4 p0 p1 p2 p3 p4) [(.int ((p0 &&& (65535 : Int32)) + (1 : Int32)))])) t
      refine XS.iload X0.here hx rfl (hb hby at_40) rfl ?_
      show Steps p.tables e below (s₁.setTop (mkF m 42 (la0_4 p0 p1 p2 p3 p4) [(.int (v0_34 p0 p1 p2 p3 p4)), (.int ((p0 &&& (65535 : Int32)) + (1 : Int32)))])) t
      refine XS.iadd X0.here hx rfl (hb hby at_42) rfl ?_
      show Steps p.tables e below (s₁.setTop (mkF m 43 (la0_4 p0 p1 p2 p3 p4) [(.int (((p0 &&& (65535 : Int32)) + (1 : Int32)) + (v0_34 p0 p1 p2 p3 p4)))])) t
      refine X0.ldcInt hx hown (mvT hZ (hw _ (List.mem_of_getElem? (i := 1) rfl))) (g := (mkF m 43 (la0_4 p0 p1 p2 p3 p4) [(.int (((p0 &&& (65535 : Int32)) + (1 : Int32)) + (v0_34 p0 p1 p2 p3 p4)))])) rfl (hb hby at_43) _ ?_
      show Steps p.tables e below (s₁.setTop (mkF m 45 (la0_4 p0 p1 p2 p3 p4) [(.int (65535 : Int32)), (.int (((p0 &&& (65535 : Int32)) + (1 : Int32)) + (v0_34 p0 p1 p2 p3 p4)))])) t
      refine XS.iand X0.here hx rfl (hb hby at_45) rfl ?_
      show Steps p.tables e below (s₁.setTop (mkF m 46 (la0_4 p0 p1 p2 p3 p4) [(.int ((((p0 &&& (65535 : Int32)) + (1 : Int32)) + (v0_34 p0 p1 p2 p3 p4)) &&& (65535 : Int32)))])) t
      refine XS.istore X0.here hx rfl (hb hby at_46) rfl (l' := (la0_5 p0 p1 p2 p3 p4)) rfl ?_
      show Steps p.tables e below (s₁.setTop (mkF m 48 (la0_5 p0 p1 p2 p3 p4) [])) t
      refine XS.goto X0.here hx rfl (pc0 := 48) (pc' := 57) rfl (hb hby at_48) (by decide) (by decide) ?_
      show Steps p.tables e below (s₁.setTop (mkF m 57 (la0_5 p0 p1 p2 p3 p4) [])) t
      exact k
    obtain ⟨T8, h8, X8, e8, E8, A8, D8, -, st8⟩ := newO X0 hx hZ hown (hw _ (List.mem_of_getElem? (i := 2) rfl)) (hw _ (List.mem_of_getElem? (i := 3) rfl)) (hw _ (List.mem_of_getElem? (i := 4) rfl)) e0 (g := (mkF m 57 (la0_5 p0 p1 p2 p3 p4) [])) rfl (hb hby at_57) (by decide) (by decide)
    obtain ⟨b0_57, g8⟩ : ∃ z, z = h0.size := ⟨_, rfl⟩
    rw [← g8] at A8 D8 st8
    have gle_b0_57 : n0 ≤ b0_57 := Nat.le_trans Z0 (Nat.le_of_eq g8.symm)
    have Z8 : n0 ≤ h8.size := Nat.le_trans Z0 E8.1
    have fc9 : Fld Z h8 b0_57 "com/example/lanternwire/lanternwire/protocol/SequenceWindow" "size" "I" (.int (0 : Int32)) := D8 (Or.inr (hw _ (List.mem_of_getElem? (i := 17) rfl))) (ty := .int) (by decide)
    refine OEnd.go (g' := (mkF m 60 (la0_5 p0 p1 p2 p3 p4) [(.ref b0_57)])) st8 ?_
    refine OEnd.go (T' := T8) (g' := (mkF m 63 (la0_5 p0 p1 p2 p3 p4) [(.int (v0_10 p0 p1 p2 p3 p4)), (.ref b0_57), (.ref b0_57)])) (fun t k => ?_) ?_
    · show Steps p.tables e below (T8.setTop (mkF m 60 (la0_5 p0 p1 p2 p3 p4) [(.ref b0_57)])) t
      refine XS.dup X8.here hx rfl (hb hby at_60) rfl rfl ?_
      show Steps p.tables e below (T8.setTop (mkF m 61 (la0_5 p0 p1 p2 p3 p4) [(.ref b0_57), (.ref b0_57)])) t
      refine XS.iload X8.here hx rfl (hb hby at_61) rfl ?_
      show Steps p.tables e below (T8.setTop (mkF m 63 (la0_5 p0 p1 p2 p3 p4) [(.int (v0_10 p0 p1 p2 p3 p4)), (.ref b0_57), (.ref b0_57)])) t
      exact k
    obtain ⟨_, _, ⟨T10, L10, k10, n10⟩, -, X10, ⟨Lc10, hQ10, l10, y10, z10⟩, st10⟩ := X8.specialBack hx (y := (⟨"com/example/lanternwire/lanternwire/protocol/SequenceWindow", "<init>", "(I)V"⟩ : MethodName)) rfl hown (mvT hZ (hw _ (List.mem_of_getElem? (i := 5) rfl))) (mvT hZ (hw _ (List.mem_of_getElem? (i := 6) rfl))) (mvT hZ (hw _ (List.mem_of_getElem? (i := 7) rfl))) (by decide) (backOf (W := 1) (rm1 l Z aZ hw [] b0_57 (v0_10 p0 p1 p2 p3 p4) h8 n0 Z8 fc9 A8 gle_b0_57 (own_lo p0 p1 p2 p3 p4) (own_hi p0 p1 p2 p3 p4)) hZ (hw _ (List.mem_of_getElem? (i := 7) rfl)) (hw _ (List.mem_of_getElem? (i := 4) rfl)) (by decide) (by decide)) (g := (mkF m 63 (la0_5 p0 p1 p2 p3 p4) [(.int (v0_10 p0 p1 p2 p3 p4)), (.ref b0_57), (.ref b0_57)])) rfl (by rw [hml]; rfl) (Steps.refl _) (a := b0_57) (argsL := [(.int (v0_10 p0 p1 p2 p3 p4))]) (rest := [(.ref b0_57)]) (lenOf pd__I_V rfl) rfl (by show 2 * 0 + _ ≤ _; exact Nat.le_of_eq rfl) (hb hby at_63) (fun _ _ => ⟨rfl, e8, (by decide : 1 + 0 ≤ _), (by decide : 1 + 0 ≤ _)⟩)
    dsimp only [Pt.U, Pt.locs, Pt.cells, Pt.slots] at X10 l10 y10 z10 st10 hQ10
    subst l10 y10 z10
    obtain ⟨rfl, N10q, u10_0, u10_1, u10_2⟩ := hQ10
    have N10 := Fr.app N0 N10q
    have Z10 : n0 ≤ T10.heap.size := Nat.le_trans Z8 u10_0.1
    refine OEnd.go (g' := (mkF m 66 (la0_5 p0 p1 p2 p3 p4) [(.ref b0_57)])) (fun _ k => st10.trans k) ?_
    refine OEnd.go (T' := T10) (g' := (mkF m 74 (la0_6 p0 p1 p2 p3 p4 b0_57) [(.int (v0_46 p0 p1 p2 p3 p4)), (.int (p0 &&& (65535 : Int32))), (.ref b0_57)])) (fun t k => ?_) ?_
    · show Steps p.tables e below (T10.setTop (mkF m 66 (la0_5 p0 p1 p2 p3 p4) [(.ref b0_57)])) t
      refine XS.astore X10.here hx rfl (hb hby at_66) rfl rfl (l' := (la0_6 p0 p1 p2 p3 p4 b0_57)) rfl ?_
      show Steps p.tables e below (T10.setTop (mkF m 68 (la0_6 p0 p1 p2 p3 p4 b0_57) [])) t
      refine XS.aload X10.here hx rfl (hb hby at_68) rfl rfl ?_
      show Steps p.tables e below (T10.setTop (mkF m 70 (la0_6 p0 p1 p2 p3 p4 b0_57) [(.ref b0_57)])) t
      refine XS.iload X10.here hx rfl (hb hby at_70) rfl ?_
      show Steps p.tables e below (T10.setTop (mkF m 72 (la0_6 p0 p1 p2 p3 p4 b0_57) [(.int (p0 &&& (65535 : Int32))), (.ref b0_57)])) t
      refine XS.iload X10.here hx rfl (hb hby at_72) rfl ?_
      show Steps p.tables e below (T10.setTop (mkF m 74 (la0_6 p0 p1 p2 p3 p4 b0_57) [(.int (v0_46 p0 p1 p2 p3 p4)), (.int (p0 &&& (65535 : Int32))), (.ref b0_57)])) t
      exact k
    obtain ⟨cq11, kq11, q11a, q11b, q11c⟩ := isOf hZ rfl u10_1
    obtain ⟨_, _, ⟨T11, L11, k11, n11⟩, -, X11, ⟨Lc11, hQ11, l11, y11, z11⟩, st11⟩ := X10.virtualBack hx (y := (⟨"com/example/lanternwire/lanternwire/protocol/SequenceWindow", "acceptsRequest", "(II)Z"⟩ : MethodName)) (z := (⟨"com/example/lanternwire/lanternwire/protocol/SequenceWindow", "acceptsRequest", "(II)Z"⟩ : MethodName)) hown (mvT hZ (hw _ (List.mem_of_getElem? (i := 18) rfl))) (mvT hZ (hw _ (List.mem_of_getElem? (i := 19) rfl))) (notFace_of_selects (args := #[]) (mvT hZ (hw _ (List.mem_of_getElem? (i := 21) rfl)))) (mvT hZ (hw _ (List.mem_of_getElem? (i := 21) rfl))) (mvT hZ (hw _ (List.mem_of_getElem? (i := 20) rfl))) (by decide) (backOf (W := 0) (rm4 l Z aZ hw [] b0_57 (p0 &&& (65535 : Int32)) (v0_46 p0 p1 p2 p3 p4) (v0_10 p0 p1 p2 p3 p4) T10.heap n0 Z10 u10_2) hZ (hw _ (List.mem_of_getElem? (i := 22) rfl)) (hw _ (List.mem_of_getElem? (i := 4) rfl)) (by decide) (by decide)) q11a q11c (g := (mkF m 74 (la0_6 p0 p1 p2 p3 p4 b0_57) [(.int (v0_46 p0 p1 p2 p3 p4)), (.int (p0 &&& (65535 : Int32))), (.ref b0_57)])) rfl (by rw [hml]; rfl) (Steps.refl _) (argsL := [(.int (p0 &&& (65535 : Int32))), (.int (v0_46 p0 p1 p2 p3 p4))]) (rest := []) (lenOf pd__II_Z rfl) rfl (by show 2 * 0 + _ ≤ _; exact Nat.le_of_eq rfl) (hb hby at_74) (fun _ _ => ⟨rfl, rfl, (by decide : 1 + 0 ≤ _), (by decide : 1 + 0 ≤ _)⟩)
    dsimp only [Pt.U, Pt.locs, Pt.cells, Pt.slots] at X11 l11 y11 z11 st11 hQ11
    subst l11 y11 z11
    obtain ⟨rfl, N11q, e11⟩ := hQ11
    have N11 := Fr.app N10 N11q
    refine OEnd.go (g' := (mkF m 77 (la0_6 p0 p1 p2 p3 p4 b0_57) [(.int (f4 (p0 &&& (65535 : Int32)) (v0_46 p0 p1 p2 p3 p4) (v0_10 p0 p1 p2 p3 p4)))])) (fun _ k => st11.trans k) ?_
    refine OEnd.go (T' := T11) (g' := (mkF m 87 (la0_7 p0 p1 p2 p3 p4 b0_57) [(.int (v0_10 p0 p1 p2 p3 p4)), (.int (v0_46 p0 p1 p2 p3 p4)), (.int (p0 &&& (65535 : Int32))), (.int (v0_77x p0 p1 p2 p3 p4))])) (fun t k => ?_) ?_
    · show Steps p.tables e below (T11.setTop (mkF m 77 (la0_6 p0 p1 p2 p3 p4 b0_57) [(.int (f4 (p0 &&& (65535 : Int32)) (v0_46 p0 p1 p2 p3 p4) (v0_10 p0 p1 p2 p3 p4)))])) t
      refine XS.istore X11.here hx rfl (hb hby at_77) rfl (l' := (la0_7 p0 p1 p2 p3 p4 b0_57)) rfl ?_
      show Steps p.tables e below (T11.setTop (mkF m 79 (la0_7 p0 p1 p2 p3 p4 b0_57) [])) t
      refine XS.iload X11.here hx rfl (hb hby at_79) rfl ?_
      show Steps p.tables e below (T11.setTop (mkF m 81 (la0_7 p0 p1 p2 p3 p4 b0_57) [(.int (v0_77x p0 p1 p2 p3 p4))])) t
      refine XS.iload X11.here hx rfl (hb hby at_81) rfl ?_
      show Steps p.tables e below (T11.setTop (mkF m 83 (la0_7 p0 p1 p2 p3 p4 b0_57) [(.int (p0 &&& (65535 : Int32))), (.int (v0_77x p0 p1 p2 p3 p4))])) t
      refine XS.iload X11.here hx rfl (hb hby at_83) rfl ?_
      show Steps p.tables e below (T11.setTop (mkF m 85 (la0_7 p0 p1 p2 p3 p4 b0_57) [(.int (v0_46 p0 p1 p2 p3 p4)), (.int (p0 &&& (65535 : Int32))), (.int (v0_77x p0 p1 p2 p3 p4))])) t
      refine XS.iload X11.here hx rfl (hb hby at_85) rfl ?_
      show Steps p.tables e below (T11.setTop (mkF m 87 (la0_7 p0 p1 p2 p3 p4 b0_57) [(.int (v0_10 p0 p1 p2 p3 p4)), (.int (v0_46 p0 p1 p2 p3 p4)), (.int (p0 &&& (65535 : Int32))), (.int (v0_77x p0 p1 p2 p3 p4))])) t
      exact k
    obtain ⟨_, _, ⟨T12, L12, k12, n12⟩, -, X12, ⟨Lc12, hQ12, l12, y12, z12⟩, st12⟩ := Jvm.LawKit.callS X11 hx (y := (⟨"com/example/lanternwire/lanternwire/protocol/SequenceWindowAcceptsRequestPinLaw", "expected", "(III)Z"⟩ : MethodName)) hown (mvT hZ (hw _ (List.mem_of_getElem? (i := 37) rfl))) (mvT hZ (hw _ (List.mem_of_getElem? (i := 38) rfl))) (mvT hZ (hw _ (List.mem_of_getElem? (i := 39) rfl))) (mvT hZ (hw _ (List.mem_of_getElem? (i := 40) rfl))) (by decide) (backOf (W := 1) (rm9 l Z aZ hw [] (p0 &&& (65535 : Int32)) (v0_46 p0 p1 p2 p3 p4) (v0_10 p0 p1 p2 p3 p4) T10.heap n0 Z10 ) hZ (hw _ (List.mem_of_getElem? (i := 40) rfl)) (hw _ (List.mem_of_getElem? (i := 39) rfl)) (by decide) (by decide)) (g := (mkF m 87 (la0_7 p0 p1 p2 p3 p4 b0_57) [(.int (v0_10 p0 p1 p2 p3 p4)), (.int (v0_46 p0 p1 p2 p3 p4)), (.int (p0 &&& (65535 : Int32))), (.int (v0_77x p0 p1 p2 p3 p4))])) rfl (by rw [hml]; rfl) (argsL := [(.int (p0 &&& (65535 : Int32))), (.int (v0_46 p0 p1 p2 p3 p4)), (.int (v0_10 p0 p1 p2 p3 p4))]) (rest := [(.int (v0_77x p0 p1 p2 p3 p4))]) (lenOf pd__III_Z rfl) rfl (by show 2 * 0 + _ ≤ _; exact Nat.le_of_eq rfl) (hb hby at_87) (fun _ _ => ⟨rfl, e11, (by decide : 1 + 0 ≤ _), (by decide : 1 + 0 ≤ _)⟩)
    dsimp only [Pt.U, Pt.locs, Pt.cells, Pt.slots] at X12 l12 y12 z12 st12 hQ12
    subst l12 y12 z12
    obtain ⟨rfl, N12q, e12⟩ := hQ12
    have N12 := Fr.app N11 N12q
    refine OEnd.go (g' := (mkF m 90 (la0_7 p0 p1 p2 p3 p4 b0_57) [(.int (f9 (p0 &&& (65535 : Int32)) (v0_46 p0 p1 p2 p3 p4) (v0_10 p0 p1 p2 p3 p4))), (.int (v0_77x p0 p1 p2 p3 p4))])) st12 ?_
    refine OEnd.go (T' := T12) (g' := (mkF m 98 (la0_7 p0 p1 p2 p3 p4 b0_57) [(.int (if (v0_77x p0 p1 p2 p3 p4) = (f9 (p0 &&& (65535 : Int32)) (v0_46 p0 p1 p2 p3 p4) (v0_10 p0 p1 p2 p3 p4)) then (1 : Int32) else (0 : Int32)))])) (fun t k => ?_) ?_
    · show Steps p.tables e below (T12.setTop (mkF m 90 (la0_7 p0 p1 p2 p3 p4 b0_57) [(.int (f9 (p0 &&& (65535 : Int32)) (v0_46 p0 p1 p2 p3 p4) (v0_10 p0 p1 p2 p3 p4))), (.int (v0_77x p0 p1 p2 p3 p4))])) t
      by_cases hc13 : (v0_77x p0 p1 p2 p3 p4) = (f9 (p0 &&& (65535 : Int32)) (v0_46 p0 p1 p2 p3 p4) (v0_10 p0 p1 p2 p3 p4))
      · skip
        refine XS.icmpNo X12.here hx rfl (hb hby at_90) rfl (teq (hc13)).2 ?_
        show Steps p.tables e below (T12.setTop (mkF m 93 (la0_7 p0 p1 p2 p3 p4 b0_57) [])) t
        refine SGo.go (T' := T12) (g' := (mkF m 98 (la0_7 p0 p1 p2 p3 p4 b0_57) [(.int (1 : Int32))])) (fun t k => ?_) ?_
        · show Steps p.tables e below (T12.setTop (mkF m 93 (la0_7 p0 p1 p2 p3 p4 b0_57) [])) t
          refine XS.iconst X12.here hx rfl (hb hby at_93) ?_
          show Steps p.tables e below (T12.setTop (mkF m 94 (la0_7 p0 p1 p2 p3 p4 b0_57) [(.int (1 : Int32))])) t
          refine XS.goto X12.here hx rfl (pc0 := 94) (pc' := 98) rfl (hb hby at_94) (by decide) (by decide) ?_
          show Steps p.tables e below (T12.setTop (mkF m 98 (la0_7 p0 p1 p2 p3 p4 b0_57) [(.int (1 : Int32))])) t
          exact k
        exact (own_k (f := fun (z : Int32) => mkF m 98 #[.val (.int p0), .val (.int p1), .val (.int p2), .val (.int p3), .val (.int p4), .val (.int (v0_10 p0 p1 p2 p3 p4)), .val (.int (p0 &&& (65535 : Int32))), .val (.int (v0_46 p0 p1 p2 p3 p4)), .val (.ref b0_57), .val (.int (v0_77x p0 p1 p2 p3 p4))] [(.int z)]) (if_pos hc13) k)
      · skip
        refine XS.icmpYes X12.here hx rfl (pc0 := 90) (pc' := 97) rfl (hb hby at_90) rfl (feq (hc13)).2 (by decide) (by decide) ?_
        show Steps p.tables e below (T12.setTop (mkF m 97 (la0_7 p0 p1 p2 p3 p4 b0_57) [])) t
        refine SGo.go (T' := T12) (g' := (mkF m 98 (la0_7 p0 p1 p2 p3 p4 b0_57) [(.int (0 : Int32))])) (fun t k => ?_) ?_
        · show Steps p.tables e below (T12.setTop (mkF m 97 (la0_7 p0 p1 p2 p3 p4 b0_57) [])) t
          refine XS.iconst X12.here hx rfl (hb hby at_97) ?_
          show Steps p.tables e below (T12.setTop (mkF m 98 (la0_7 p0 p1 p2 p3 p4 b0_57) [(.int (0 : Int32))])) t
          exact k
        exact (own_k (f := fun (z : Int32) => mkF m 98 #[.val (.int p0), .val (.int p1), .val (.int p2), .val (.int p3), .val (.int p4), .val (.int (v0_10 p0 p1 p2 p3 p4)), .val (.int (p0 &&& (65535 : Int32))), .val (.int (v0_46 p0 p1 p2 p3 p4)), .val (.ref b0_57), .val (.int (v0_77x p0 p1 p2 p3 p4))] [(.int z)]) (if_neg hc13) k)
    exact OEnd.nar X12 hx (t := .boolean) Bd.returns (by simp) hlk (hb hby at_98) ⟨(congrArg (fun z => some (Value.int (nar .boolean z))) (own_via (if_neg hc1) (own_plain p0 p1 p2 p3 p4))), N12⟩ (by decide) (by decide)
set_option maxRecDepth 65536 in
set_option maxHeartbeats 40000000 in
theorem comes_1 {Post : Tables → Env → Array Value → State → Outcome → State → Prop} (hpost : ∀ tb e args s v u, (limb_1_1.after args s (.returned v) u = true ∧ limb_1_2.after args s (.returned v) u = true ∧ True) → FrameEnd s (.returned v) u (Jvm.fieldLocs frame_1_writes args s ++ Jvm.arrayLocs frame_1_arrays args s ++ Jvm.staticLocs frame_1_statics s) 16 128 → Post tb e args s (.returned v) u) :
    ArmFor flags0 classFile x code maxLocals ret World_1 tables_1 room_1 Calls_1 rest_1 Pre_1 Post := by
  intro l hfl _ _ p e ha hc hk s m args below hf hA hF happ hP
  obtain ⟨hcalls, hrest, hpre⟩ := hP
  obtain ⟨-, -, -, hnamed, -, -, -, hat⟩ := (Spec.applies_iff hf).mp happ
  obtain ⟨hg, hn⟩ := and_e (Cond.before_iff.mp (show (Jvm.Cond.and given_1 narrow_1).before args s = true from hpre))
  obtain ⟨c1, c2⟩ := and_e hg
  obtain ⟨c3, c4⟩ := and_e c2
  obtain ⟨c5, c6⟩ := and_e c4
  obtain ⟨c7, c8⟩ := and_e c6
  obtain ⟨c9, c10⟩ := and_e c8
  obtain ⟨w0, w1, w2, w3, w4, rfl⟩ : ∃ w0 w1 w2 w3 w4 : Value, args = #[w0, w1, w2, w3, w4] := by
    have hs : args.size = 5 := by simpa [Cond.value, given_1] using c1
    obtain ⟨L⟩ := args
    match L, hs with
    | [w0, w1, w2, w3, w4], _ => exact ⟨w0, w1, w2, w3, w4, rfl⟩
  have hw := fun d (hd : d ∈ tables_1) => atoms_spec (ws := Jvm.Cond.code x code maxLocals ret :: tables_1) hat d (List.mem_cons_of_mem _ hd)
  obtain ⟨i0, ei0⟩ := is_v c3
  obtain rfl : w0 = (.int i0) := Option.some.inj ei0
  obtain ⟨i1, ei1⟩ := is_v c5
  obtain rfl : w1 = (.int i1) := Option.some.inj ei1
  obtain ⟨i2, ei2⟩ := is_v c7
  obtain rfl : w2 = (.int i2) := Option.some.inj ei2
  obtain ⟨i3, ei3⟩ := is_v c9
  obtain rfl : w3 = (.int i3) := Option.some.inj ei3
  obtain ⟨i4, ei4⟩ := is_v c10
  obtain rfl : w4 = (.int i4) := Option.some.inj ei4
  obtain ⟨n, o, h1, h2, h3, _, L, rfl, ⟨rfl, N⟩, hq⟩ := rm0 l s _ hw tables_1 i0 i1 i2 i3 i4 s.heap s.heap.size (Nat.le_refl _)  p e ha hc hk s m _ below hf ((Spec.applies_iff_loose hf).mp happ).1 ⟨rfl, State.Warmed39.refl s, rfl⟩ trivial
  refine ⟨n, _, h1, h2, h3, hpost _ _ _ _ _ _ ⟨Cond.after_iff.mpr rfl, Cond.after_iff.mpr (eq_i res_at (Term.int_eval (1)) rfl), trivial⟩ ⟨hq.1, hq.2.1, (hq.2.2.sift fun y hy => Or.inr (N y hy)).mono (by decide) (by decide)⟩⟩
theorem main_1_1 : Claimed_1_1 := comes_1 fun _ _ _ _ _ _ h hF => ⟨h.1, hF⟩
theorem main_1_2 : Claimed_1_2 := comes_1 fun _ _ _ _ _ _ h hF => ⟨h.2.1, hF⟩
end Jvm.Pilot.@@N@@
namespace Jvm.Pilot.@@N@@
open Jvm Jvm.ClassFile Sem Op Lib Jvm.Free Jvm.Stand Jvm.Pilot.@@N@@.Jvm.D
/-! MADE BY PROGRAM (witnessworld.py) out of the Statement's table words and the real class files: 11 classes; the members and pool entries that the words name. The judged class is class 1, her method 2. -/
namespace start1
open Jvm.ClassFile
def u (s : String) : CpInfo := .utf8 (stringToUtf16 s)
/-- a pool by its gaps: so many unusable entries, then the entry; so many at the end -/
def gap : Nat → List CpInfo → List CpInfo
  | 0, r => r
  | n + 1, r => .unusable :: gap n r
def poolList (es : List (Nat × CpInfo)) (last : Nat) : List CpInfo := es.foldr (fun e r => gap e.1 (e.2 :: r)) (gap last [])
def pool (es : List (Nat × CpInfo)) (last : Nat) : Array CpInfo := ⟨poolList es last⟩
def fileOf (pool : Array CpInfo) (this : Nat) (attrs : Array Attribute := #[]) (ms : Array MethodInfo := #[]) (fl : Nat := 33) (sup : Nat := 0) (ifs : Array Nat := #[]) (fds : Array FieldInfo := #[]) : ClassFile where
  minorVersion := 0
  majorVersion := 65
  constantPool := pool
  accessFlags := fl
  thisClass := this
  superClass := sup
  interfaces := ifs
  fields := fds
  methods := ms
  attributes := attrs
def plain (name : String) (sup : Option ClassId) : Class where
  name := name
  kind := .ordinary
  loader := none
  accessFlags := 33
  super := sup
  interfaces := #[]
  cf := none
  fields := #[]
  methods := #[]
  instanceTypes := #[]
  staticTypes := #[]
  resolved := #[]
  callSites := []
  init := .initialized
  statics := none
  mirror := none

def pool0 : Array CpInfo := pool [(5, u "<init>"), (0, u "()V"), (1, .class_ 10), (1, u "java/lang/Object")] 113

def k0c0 : Code := { maxStack := 0, maxLocals := 1, code := object_method_1_code, exceptionTable := #[], attributes := #[] }
def k0m0 : Method := { name := "<init>", desc := "()V", sig := { parameters := [], returnType := none }, accessFlags := 1, code := some k0c0 }
/-- java/lang/Object -/
def k0 : Class := { plain "java/lang/Object" none with
  accessFlags := 33
  interfaces := #[]
  cf := some (fileOf pool0 8 #[] #[{ accessFlags := 1, nameIndex := 5, descriptorIndex := 6, attributes := #[] }] 33 0 #[] #[])
  fields := #[]
  methods := #[k0m0]
  instanceTypes := #[]
  staticTypes := #[]
  resolved := Array.replicate 124 none
  statics := none }

def pool1 : Array CpInfo := pool [(2, .class_ 4), (1, u "java/lang/Object"), (0, u "<init>"), (0, u "()V"), (0, .integer 65536), (0, .integer 2147483647), (0, .integer 65535), (0, .class_ 11), (0, u "com/example/lanternwire/lanternwire/protocol/SequenceWindow"), (0, .methodref 10 13), (0, .nameAndType 5 14), (0, u "(I)V"), (0, .methodref 10 16), (0, .nameAndType 17 18), (0, u "acceptsRequest"), (0, u "(II)Z"), (0, .methodref 20 21), (0, .class_ 22), (0, .nameAndType 23 24), (0, u "com/example/lanternwire/lanternwire/protocol/SequenceWindowAcceptsRequestPinLaw"), (0, u "expected"), (0, u "(III)Z"), (3, u "law"), (0, u "(IIIII)Z")] 2

def k1m0 : Method := { name := "<init>", desc := "()V", sig := { parameters := [], returnType := none }, accessFlags := 2, code := none }
def k1c1 : Code := { maxStack := 3, maxLocals := 4, code := method_2_code, exceptionTable := #[], attributes := #[] }
def k1m1 : Method := { name := "expected", desc := "(III)Z", sig := { parameters := [.int, .int, .int], returnType := some .boolean }, accessFlags := 10, code := some k1c1 }
def k1c2 : Code := { maxStack := 4, maxLocals := 10, code := code, exceptionTable := #[], attributes := #[] }
def k1m2 : Method := { name := "law", desc := "(IIIII)Z", sig := { parameters := [.int, .int, .int, .int, .int], returnType := some .boolean }, accessFlags := 9, code := some k1c2 }
/-- com/example/lanternwire/lanternwire/protocol/SequenceWindowAcceptsRequestPinLaw -/
def k1 : Class := { plain "com/example/lanternwire/lanternwire/protocol/SequenceWindowAcceptsRequestPinLaw" (some 0) with
  accessFlags := 49
  interfaces := #[]
  cf := some (fileOf pool1 20 #[] #[{ accessFlags := 2, nameIndex := 5, descriptorIndex := 6, attributes := #[] }, { accessFlags := 10, nameIndex := 23, descriptorIndex := 24, attributes := #[] }, { accessFlags := 9, nameIndex := 28, descriptorIndex := 29, attributes := #[] }] 49 2 #[] #[])
  fields := #[]
  methods := #[k1m0, k1m1, k1m2]
  instanceTypes := #[]
  staticTypes := #[]
  resolved := Array.replicate 32 none
  statics := none }

def pool2 : Array CpInfo := pool [(1, .methodref 2 3), (0, .class_ 4), (0, .nameAndType 5 6), (0, u "java/lang/Object"), (0, u "<init>"), (0, u "()V"), (0, .class_ 8), (0, u "java/lang/Record")] 13

def k2c0 : Code := { maxStack := 1, maxLocals := 1, code := jdk_30_method_1_code, exceptionTable := #[], attributes := #[] }
def k2m0 : Method := { name := "<init>", desc := "()V", sig := { parameters := [], returnType := none }, accessFlags := 4, code := some k2c0 }
/-- java/lang/Record -/
def k2 : Class := { plain "java/lang/Record" (some 0) with
  accessFlags := 1057
  interfaces := #[]
  cf := some (fileOf pool2 7 #[] #[{ accessFlags := 4, nameIndex := 5, descriptorIndex := 6, attributes := #[] }] 1057 2 #[] #[])
  fields := #[]
  methods := #[k2m0]
  instanceTypes := #[]
  staticTypes := #[]
  resolved := Array.replicate 22 none
  statics := none }

def pool3 : Array CpInfo := pool [(3, .methodref 4 5), (0, .class_ 6), (0, .nameAndType 7 8), (0, u "java/lang/Record"), (0, u "<init>"), (0, u "()V"), (0, .class_ 10), (0, u "com/example/lanternwire/lanternwire/protocol/SequenceWindow"), (9, .fieldref 9 21), (0, .nameAndType 22 23), (0, u "size"), (0, u "I"), (0, .methodref 9 25), (0, .nameAndType 26 27), (0, u "ahead"), (0, u "(II)I"), (0, .methodref 9 29), (0, .nameAndType 30 31), (0, u "next"), (0, u "(I)I"), (0, .integer 65536), (0, .methodref 34 35), (0, .class_ 36), (0, .nameAndType 37 27), (0, u "java/lang/Math"), (0, u "min"), (0, .methodref 34 39), (0, .nameAndType 40 27), (0, u "floorMod"), (12, u "MIN_SIZE"), (2, u "MAX_SIZE"), (1, u "DEFAULT_SIZE"), (1, u "NUMBERS"), (0, u "(I)V"), (5, u "(II)Z"), (0, u "acceptsRequest")] 30

def k3c0 : Code := { maxStack := 3, maxLocals := 2, code := prog_12_method_1_code, exceptionTable := #[], attributes := #[] }
def k3m0 : Method := { name := "<init>", desc := "(I)V", sig := { parameters := [.int], returnType := none }, accessFlags := 1, code := some k3c0 }
def k3c1 : Code := { maxStack := 3, maxLocals := 4, code := prog_12_method_3_code, exceptionTable := #[], attributes := #[] }
def k3m1 : Method := { name := "acceptsRequest", desc := "(II)Z", sig := { parameters := [.int, .int], returnType := some .boolean }, accessFlags := 1, code := some k3c1 }
def k3c2 : Code := { maxStack := 2, maxLocals := 1, code := prog_12_method_4_code, exceptionTable := #[], attributes := #[] }
def k3m2 : Method := { name := "next", desc := "(I)I", sig := { parameters := [.int], returnType := some .int }, accessFlags := 9, code := some k3c2 }
def k3c3 : Code := { maxStack := 2, maxLocals := 2, code := prog_12_method_5_code, exceptionTable := #[], attributes := #[] }
def k3m3 : Method := { name := "ahead", desc := "(II)I", sig := { parameters := [.int, .int], returnType := some .int }, accessFlags := 10, code := some k3c3 }
/-- com/example/lanternwire/lanternwire/protocol/SequenceWindow -/
def k3 : Class := { plain "com/example/lanternwire/lanternwire/protocol/SequenceWindow" (some 2) with
  accessFlags := 49
  interfaces := #[]
  cf := some (fileOf pool3 9 #[] #[{ accessFlags := 1, nameIndex := 7, descriptorIndex := 61, attributes := #[] }, { accessFlags := 1, nameIndex := 68, descriptorIndex := 67, attributes := #[] }, { accessFlags := 9, nameIndex := 30, descriptorIndex := 31, attributes := #[] }, { accessFlags := 10, nameIndex := 26, descriptorIndex := 27, attributes := #[] }] 49 4 #[] #[{ accessFlags := 18, nameIndex := 22, descriptorIndex := 23, attributes := #[] }, { accessFlags := 25, nameIndex := 53, descriptorIndex := 23, attributes := #[] }, { accessFlags := 25, nameIndex := 56, descriptorIndex := 23, attributes := #[] }, { accessFlags := 25, nameIndex := 58, descriptorIndex := 23, attributes := #[] }, { accessFlags := 26, nameIndex := 60, descriptorIndex := 23, attributes := #[] }])
  fields := #[{ name := "size", type := .int, accessFlags := 18, slot := 0, constantValue := 0 }, { name := "MIN_SIZE", type := .int, accessFlags := 25, slot := 0, constantValue := 0 }, { name := "MAX_SIZE", type := .int, accessFlags := 25, slot := 1, constantValue := 0 }, { name := "DEFAULT_SIZE", type := .int, accessFlags := 25, slot := 2, constantValue := 0 }, { name := "NUMBERS", type := .int, accessFlags := 26, slot := 3, constantValue := 0 }]
  methods := #[k3m0, k3m1, k3m2, k3m3]
  instanceTypes := #[.int]
  staticTypes := #[.int, .int, .int, .int]
  resolved := Array.replicate 99 none
  statics := none }

def pool4 : Array CpInfo := pool [(1, .class_ 2), (0, u "java/lang/Math"), (1, .class_ 6), (1, u "java/lang/Object"), (0, u "<init>"), (0, u "()V"), (89, .class_ 100), (1, u "java/lang/Math$RandomNumberGeneratorHolder"), (47, u "floorMod"), (23, u "negativeZeroFloatBits"), (0, u "J"), (2, u "negativeZeroDoubleBits"), (24, u "min"), (43, u "$assertionsDisabled"), (0, u "Z"), (88, u "(II)I"), (2, u "twoToTheDoubleScaleDown"), (0, u "D"), (4, u "twoToTheDoubleScaleUp"), (9, u "E"), (3, u "PI"), (2, u "TAU"), (2, u "DEGREES_TO_RADIANS"), (0, u "RADIANS_TO_DEGREES")] 94

def k4m0 : Method := { name := "<init>", desc := "()V", sig := { parameters := [], returnType := none }, accessFlags := 2, code := none }
def k4c1 : Code := { maxStack := 2, maxLocals := 3, code := jdk_29_method_50_code, exceptionTable := #[], attributes := #[] }
def k4m1 : Method := { name := "floorMod", desc := "(II)I", sig := { parameters := [.int, .int], returnType := some .int }, accessFlags := 9, code := some k4c1 }
def k4c2 : Code := { maxStack := 2, maxLocals := 2, code := jdk_29_method_69_code, exceptionTable := #[], attributes := #[] }
def k4m2 : Method := { name := "min", desc := "(II)I", sig := { parameters := [.int, .int], returnType := some .int }, accessFlags := 9, code := some k4c2 }
/-- java/lang/Math -/
def k4 : Class := { plain "java/lang/Math" (some 0) with
  accessFlags := 49
  interfaces := #[]
  cf := some (fileOf pool4 1 #[.nestMembers #[98]] #[{ accessFlags := 2, nameIndex := 7, descriptorIndex := 8, attributes := #[] }, { accessFlags := 9, nameIndex := 148, descriptorIndex := 335, attributes := #[] }, { accessFlags := 9, nameIndex := 201, descriptorIndex := 335, attributes := #[] }] 49 4 #[] #[{ accessFlags := 25, nameIndex := 354, descriptorIndex := 339, attributes := #[] }, { accessFlags := 25, nameIndex := 358, descriptorIndex := 339, attributes := #[] }, { accessFlags := 25, nameIndex := 361, descriptorIndex := 339, attributes := #[] }, { accessFlags := 26, nameIndex := 364, descriptorIndex := 339, attributes := #[] }, { accessFlags := 26, nameIndex := 365, descriptorIndex := 339, attributes := #[] }, { accessFlags := 26, nameIndex := 172, descriptorIndex := 173, attributes := #[] }, { accessFlags := 26, nameIndex := 176, descriptorIndex := 173, attributes := #[] }, { accessFlags := 8, nameIndex := 344, descriptorIndex := 339, attributes := #[] }, { accessFlags := 8, nameIndex := 338, descriptorIndex := 339, attributes := #[] }, { accessFlags := 4120, nameIndex := 245, descriptorIndex := 246, attributes := #[] }])
  fields := #[{ name := "E", type := .double, accessFlags := 25, slot := 0, constantValue := 0 }, { name := "PI", type := .double, accessFlags := 25, slot := 1, constantValue := 0 }, { name := "TAU", type := .double, accessFlags := 25, slot := 2, constantValue := 0 }, { name := "DEGREES_TO_RADIANS", type := .double, accessFlags := 26, slot := 3, constantValue := 0 }, { name := "RADIANS_TO_DEGREES", type := .double, accessFlags := 26, slot := 4, constantValue := 0 }, { name := "negativeZeroFloatBits", type := .long, accessFlags := 26, slot := 5, constantValue := 0 }, { name := "negativeZeroDoubleBits", type := .long, accessFlags := 26, slot := 6, constantValue := 0 }, { name := "twoToTheDoubleScaleUp", type := .double, accessFlags := 8, slot := 7, constantValue := 0 }, { name := "twoToTheDoubleScaleDown", type := .double, accessFlags := 8, slot := 8, constantValue := 0 }, { name := "$assertionsDisabled", type := .boolean, accessFlags := 4120, slot := 9, constantValue := 0 }]
  methods := #[k4m0, k4m1, k4m2]
  instanceTypes := #[]
  staticTypes := #[.double, .double, .double, .double, .double, .long, .long, .double, .double, .boolean]
  resolved := Array.replicate 460 none
  statics := none }

def pool5 : Array CpInfo := pool [(1, u "java/lang/Cloneable"), (0, .class_ 1), (0, u "java/lang/Object"), (0, .class_ 3)] 3

/-- java/lang/Cloneable -/
def k5 : Class := { plain "java/lang/Cloneable" (some 0) with
  accessFlags := 1537
  interfaces := #[]
  cf := some (fileOf pool5 2 #[] #[] 1537 4 #[] #[])
  fields := #[]
  methods := #[]
  instanceTypes := #[]
  staticTypes := #[]
  resolved := Array.replicate 8 none
  statics := none }

def pool6 : Array CpInfo := pool [(1, u "java/io/Serializable"), (0, .class_ 1), (0, u "java/lang/Object"), (0, .class_ 3)] 3

/-- java/io/Serializable -/
def k6 : Class := { plain "java/io/Serializable" (some 0) with
  accessFlags := 1537
  interfaces := #[]
  cf := some (fileOf pool6 2 #[] #[] 1537 4 #[] #[])
  fields := #[]
  methods := #[]
  instanceTypes := #[]
  staticTypes := #[]
  resolved := Array.replicate 8 none
  statics := none }

/-- the primitive byte -/
def k7 : Class := { plain "byte" none with kind := .primitive 'B', accessFlags := 0x411 }
/-- [B -/
def k8 : Class := { plain "[B" (some 0) with kind := .array 7 .byte, interfaces := #[5, 6], accessFlags := 1041 }

/-- the primitive int -/
def k9 : Class := { plain "int" none with kind := .primitive 'I', accessFlags := 0x411 }
/-- [I -/
def k10 : Class := { plain "[I" (some 0) with kind := .array 9 .int, interfaces := #[5, 6], accessFlags := 1041 }

def heap : Heap := #[]
def classes : Array Class := #[k0, k1, k2, k3, k4, k5, k6, k7, k8, k9, k10]
def interned : List (Array UInt16 × Addr) := []
def slotsUsed : Nat := 0
def theMethod : MethodId := ⟨1, 2⟩
def args0 : Array Value := #[.int 5, .int 7, .int 9, .int 3, .int 1]
def aboutOver (below : List Frame) : State where
  vm := { classes := classes, interned := interned.toArray }
  heap := heap
  slotsUsed := slotsUsed
  threads := #[{ frames := .invoking theMethod args0 :: below }]
def below0 : List Frame := [.native { method := ⟨0, 0⟩, args := #[] }]
def about1 : State := aboutOver below0
def p0 : Program := .bare "" "" ""
def e0 : Env := launch0.env 0 0 0
theorem w_frames : about1.frames = Frame.invoking theMethod args0 :: below0 := rfl
set_option maxRecDepth 65536 in
theorem w_args : argsFit about1.vm theMethod args0 = true := by decide +kernel
set_option maxRecDepth 65536 in
theorem w_heap : heapFits about1 = true := by decide +kernel
set_option maxRecDepth 65536 in
theorem w_runnable : about1.curStatus? = some .runnable := by decide +kernel
set_option maxRecDepth 65536 in
theorem w_alone : about1.alone = true := by decide +kernel
set_option maxRecDepth 65536 in
theorem w_named : about1.methodNamed? x = some theMethod := by decide +kernel
set_option maxRecDepth 65536 in
theorem w_hears : about1.hears theMethod below0 = true := by decide +kernel
set_option maxRecDepth 65536 in
theorem w_ripe : about1.ripe theMethod args0 below0 = true := by decide +kernel
theorem w_running : about1.status = .running := rfl
set_option maxRecDepth 65536 in
theorem w_room : about1.hasRoom e0.platform room_1 = true :=
  launch0.hasRoom_least _ room_1 (by decide +kernel) (by decide +kernel) (by decide +kernel) (by decide +kernel) (by decide +kernel) (by decide +kernel)
theorem allAtoms_all (ts : List Jvm.Cond) (a : Array Jvm.Value) (st : Jvm.State) : (allAtoms ts).before a st = ts.all (fun c => c.before a st) := by
  induction ts with
  | nil => rfl
  | cons c t ih =>
    show (Jvm.Cond.and c (allAtoms t)).before a st = _
    rw [Jvm.Cond.before_and, ih, List.all_cons]
def words1 : List Jvm.Cond := Jvm.Cond.code x code maxLocals ret :: tables_1
/-- a 'code' word, met by the world's own term for the bytes: nothing is compared byte by byte -/
theorem code_word {y : MethodName} {bytes : ByteArray} {mx : Nat} {rt : Option FieldType} {a : Array Value} {s : State} {m : MethodId} {meth : Method} {c : Code} (h1 : s.methodNamed? y = some m) (h2 : s.vm.method? m = some meth) (h3 : meth.code = some c) (h4 : c.code = bytes)
    (h5 : (c.maxLocals == mx && c.exceptionTable.isEmpty && decide (c.maxStack ≤ mostOperands) && decide (meth.sig.returnType = rt) && !meth.locks && decide (parseMethodDescriptor y.desc = some meth.sig)) = true) : (Jvm.Cond.code y bytes mx rt).before a s = true := by
  simp only [Bool.and_eq_true, beq_iff_eq, Bool.not_eq_true', decide_eq_true_eq] at h5
  obtain ⟨⟨⟨⟨⟨g1, g2⟩, g3⟩, g4⟩, g5⟩, g6⟩ := h5
  simp [Cond.before, Cond.holds, Cond.value, h1, h2, h3, h4, g1, g2, g3, g4, g5, g6]
def isCode : Jvm.Cond → Bool
  | .code _ _ _ _ => true
  | _ => false
theorem all_split {L : List Jvm.Cond} {P : Jvm.Cond → Bool} (h1 : L.all (fun c => isCode c || P c) = true) (h2 : ∀ c ∈ L.filter isCode, P c = true) : L.all P = true := by
  refine List.all_eq_true.mpr fun c hc => ?_
  have h := List.all_eq_true.mp h1 c hc
  rcases Bool.eq_false_or_eq_true (isCode c) with hi | hi
  · exact h2 c (List.mem_filter.mpr ⟨hc, hi⟩)
  · simpa [hi] using h
set_option maxRecDepth 65536 in
theorem w_c0 : (Jvm.Cond.code x code maxLocals ret).before args0 about1 = true := code_word (m := ⟨1, 2⟩) (meth := k1m2) (c := k1c2) (by decide +kernel) rfl rfl rfl (by decide +kernel)
set_option maxRecDepth 65536 in
theorem w_c1 : (Jvm.Cond.code ({ cls := "com/example/lanternwire/lanternwire/protocol/SequenceWindow", name := "<init>", desc := "(I)V" } : Jvm.MethodName) prog_12_method_1_code (2 : Nat) (Option.none : Option Jvm.ClassFile.FieldType)).before args0 about1 = true := code_word (m := ⟨3, 0⟩) (meth := k3m0) (c := k3c0) (by decide +kernel) rfl rfl rfl (by decide +kernel)
set_option maxRecDepth 65536 in
theorem w_c2 : (Jvm.Cond.code ({ cls := "java/lang/Record", name := "<init>", desc := "()V" } : Jvm.MethodName) jdk_30_method_1_code (1 : Nat) (Option.none : Option Jvm.ClassFile.FieldType)).before args0 about1 = true := code_word (m := ⟨2, 0⟩) (meth := k2m0) (c := k2c0) (by decide +kernel) rfl rfl rfl (by decide +kernel)
set_option maxRecDepth 65536 in
theorem w_c3 : (Jvm.Cond.code ({ cls := "java/lang/Object", name := "<init>", desc := "()V" } : Jvm.MethodName) object_method_1_code (1 : Nat) (Option.none : Option Jvm.ClassFile.FieldType)).before args0 about1 = true := code_word (m := ⟨0, 0⟩) (meth := k0m0) (c := k0c0) (by decide +kernel) rfl rfl rfl (by decide +kernel)
set_option maxRecDepth 65536 in
theorem w_c4 : (Jvm.Cond.code ({ cls := "com/example/lanternwire/lanternwire/protocol/SequenceWindow", name := "acceptsRequest", desc := "(II)Z" } : Jvm.MethodName) prog_12_method_3_code (4 : Nat) (Option.some Jvm.ClassFile.FieldType.boolean)).before args0 about1 = true := code_word (m := ⟨3, 1⟩) (meth := k3m1) (c := k3c1) (by decide +kernel) rfl rfl rfl (by decide +kernel)
set_option maxRecDepth 65536 in
theorem w_c5 : (Jvm.Cond.code ({ cls := "com/example/lanternwire/lanternwire/protocol/SequenceWindow", name := "next", desc := "(I)I" } : Jvm.MethodName) prog_12_method_4_code (1 : Nat) (Option.some Jvm.ClassFile.FieldType.int)).before args0 about1 = true := code_word (m := ⟨3, 2⟩) (meth := k3m2) (c := k3c2) (by decide +kernel) rfl rfl rfl (by decide +kernel)
set_option maxRecDepth 65536 in
theorem w_c6 : (Jvm.Cond.code ({ cls := "com/example/lanternwire/lanternwire/protocol/SequenceWindow", name := "ahead", desc := "(II)I" } : Jvm.MethodName) prog_12_method_5_code (2 : Nat) (Option.some Jvm.ClassFile.FieldType.int)).before args0 about1 = true := code_word (m := ⟨3, 3⟩) (meth := k3m3) (c := k3c3) (by decide +kernel) rfl rfl rfl (by decide +kernel)
set_option maxRecDepth 65536 in
theorem w_c7 : (Jvm.Cond.code ({ cls := "java/lang/Math", name := "floorMod", desc := "(II)I" } : Jvm.MethodName) jdk_29_method_50_code (3 : Nat) (Option.some Jvm.ClassFile.FieldType.int)).before args0 about1 = true := code_word (m := ⟨4, 1⟩) (meth := k4m1) (c := k4c1) (by decide +kernel) rfl rfl rfl (by decide +kernel)
set_option maxRecDepth 65536 in
theorem w_c8 : (Jvm.Cond.code ({ cls := "java/lang/Math", name := "min", desc := "(II)I" } : Jvm.MethodName) jdk_29_method_69_code (2 : Nat) (Option.some Jvm.ClassFile.FieldType.int)).before args0 about1 = true := code_word (m := ⟨4, 2⟩) (meth := k4m2) (c := k4c2) (by decide +kernel) rfl rfl rfl (by decide +kernel)
set_option maxRecDepth 65536 in
theorem w_c9 : (Jvm.Cond.code ({ cls := "com/example/lanternwire/lanternwire/protocol/SequenceWindowAcceptsRequestPinLaw", name := "expected", desc := "(III)Z" } : Jvm.MethodName) method_2_code (4 : Nat) (Option.some Jvm.ClassFile.FieldType.boolean)).before args0 about1 = true := code_word (m := ⟨1, 1⟩) (meth := k1m1) (c := k1c1) (by decide +kernel) rfl rfl rfl (by decide +kernel)
def codes1 : List Jvm.Cond := [Jvm.Cond.code x code maxLocals ret, Jvm.Cond.code ({ cls := "com/example/lanternwire/lanternwire/protocol/SequenceWindow", name := "<init>", desc := "(I)V" } : Jvm.MethodName) prog_12_method_1_code (2 : Nat) (Option.none : Option Jvm.ClassFile.FieldType), Jvm.Cond.code ({ cls := "java/lang/Record", name := "<init>", desc := "()V" } : Jvm.MethodName) jdk_30_method_1_code (1 : Nat) (Option.none : Option Jvm.ClassFile.FieldType), Jvm.Cond.code ({ cls := "java/lang/Object", name := "<init>", desc := "()V" } : Jvm.MethodName) object_method_1_code (1 : Nat) (Option.none : Option Jvm.ClassFile.FieldType), Jvm.Cond.code ({ cls := "com/example/lanternwire/lanternwire/protocol/SequenceWindow", name := "acceptsRequest", desc := "(II)Z" } : Jvm.MethodName) prog_12_method_3_code (4 : Nat) (Option.some Jvm.ClassFile.FieldType.boolean), Jvm.Cond.code ({ cls := "com/example/lanternwire/lanternwire/protocol/SequenceWindow", name := "next", desc := "(I)I" } : Jvm.MethodName) prog_12_method_4_code (1 : Nat) (Option.some Jvm.ClassFile.FieldType.int), Jvm.Cond.code ({ cls := "com/example/lanternwire/lanternwire/protocol/SequenceWindow", name := "ahead", desc := "(II)I" } : Jvm.MethodName) prog_12_method_5_code (2 : Nat) (Option.some Jvm.ClassFile.FieldType.int), Jvm.Cond.code ({ cls := "java/lang/Math", name := "floorMod", desc := "(II)I" } : Jvm.MethodName) jdk_29_method_50_code (3 : Nat) (Option.some Jvm.ClassFile.FieldType.int), Jvm.Cond.code ({ cls := "java/lang/Math", name := "min", desc := "(II)I" } : Jvm.MethodName) jdk_29_method_69_code (2 : Nat) (Option.some Jvm.ClassFile.FieldType.int), Jvm.Cond.code ({ cls := "com/example/lanternwire/lanternwire/protocol/SequenceWindowAcceptsRequestPinLaw", name := "expected", desc := "(III)Z" } : Jvm.MethodName) method_2_code (4 : Nat) (Option.some Jvm.ClassFile.FieldType.boolean)]
set_option maxRecDepth 65536 in
theorem codes_eq : words1.filter isCode = codes1 := rfl
theorem w_codes : ∀ c ∈ words1.filter isCode, c.before args0 about1 = true := by
  rw [codes_eq]
  intro c hc
  simp only [codes1, List.mem_cons, List.not_mem_nil, or_false] at hc
  rcases hc with rfl | rfl | rfl | rfl | rfl | rfl | rfl | rfl | rfl | rfl
  · exact w_c0
  · exact w_c1
  · exact w_c2
  · exact w_c3
  · exact w_c4
  · exact w_c5
  · exact w_c6
  · exact w_c7
  · exact w_c8
  · exact w_c9
set_option maxRecDepth 65536 in
theorem w_t1 : (words1.take 24).all (fun c => isCode c || c.before args0 about1) = true := by decide +kernel
set_option maxRecDepth 65536 in
theorem w_t2 : (words1.drop 24).all (fun c => isCode c || c.before args0 about1) = true := by decide +kernel
theorem w_tables : (allAtoms (Jvm.Cond.code x code maxLocals ret :: tables_1)).before args0 about1 = true := by
  rw [allAtoms_all]
  show words1.all (fun c => c.before args0 about1) = true
  refine all_split ?_ w_codes
  rw [← List.take_append_drop 24 words1, List.all_append, w_t1, w_t2]
  rfl
set_option maxRecDepth 65536 in
theorem w_case : (Jvm.Cond.and given_1 narrow_1).before args0 about1 = true := by decide +kernel
theorem w_applies : (headSpec (Jvm.Cond.code x code maxLocals ret :: tables_1) room_1).applies x e0.platform about1 = true :=
  (Spec.applies_iff w_frames).mpr ⟨w_running, w_runnable, w_alone, w_named, w_hears, w_ripe, w_room, w_tables⟩
theorem atStart : AtStart classFile x code maxLocals ret World_1 tables_1 room_1 Calls_1 rest_1 Pre_1 launch0 p0 e0 about1 theMethod args0 below0 :=
  ⟨lists_1, trivial, launch0.admits_env _ _ _, launch0.least_env, fairChoices_fair.cas, fairChoices_fair.clock, w_frames, w_args, w_heap, w_applies, trivial, trivial, w_case⟩
end start1
theorem witness_1 : WitnessClaimed_1 := ⟨start1.p0, start1.e0, start1.about1, start1.theMethod, start1.args0, start1.below0, start1.atStart⟩
end Jvm.Pilot.@@N@@
