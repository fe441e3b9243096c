import JvmDerived
import JvmDerived.Pilot.@@N@@Statement
import JvmDerived.Pilot.@@N@@Code
set_option linter.unusedVariables false
set_option linter.unusedSimpArgs false
namespace Jvm.RoadKit
open Sem ClassFile Op Lib Jvm.Stand Jvm.Free Jvm.LawKit
section New
variable {p : Program} {l : Launch} {e : Env} {R : Room} {s : State} {m : MethodId} {args : Array Value} {below : List Frame} {meth : Method} {c : Code} {T : State} {locs : List Loc} {cells slots : Nat}
theorem retI (X : Stand p l e R s m args below meth c T locs cells slots) (hx : p.tables.exec = Jvm.exec) {pc : Nat} {Ls : Array Slot} {z : Int32} {rest : List Value} (hret : meth.sig.returnType = some .int) (hd : decode c.code pc = .ok (.ireturn, 1)) {fs : List Frame}
    (hl : ∀ (f : JFrame) (acts : List Action), f.method = m → f.locked = none → f.entered = [] → (doReturn e (T.setTop f) acts (some (.int z))).1 = T.setFrames fs) : Steps p.tables e below (T.setTop (mkF m pc Ls (.int z :: rest))) (T.setFrames fs) := by
  have hm' : T.vm.method? m = some meth := X.method'
  have hn : narrow .int (.int z) = .int z := rfl
  show Steps p.tables e below (T.setTop { method := m, pc := pc, locals := Ls, stack := _ :: rest, locked := none }) _
  jvm_step X.here [X.here.top, hx, hd, hm', hret, hn]
  first | (intro acts; rw [hl _ acts rfl rfl rfl]) | rw [hl _ _ rfl rfl rfl]
  exact Steps.refl _
end New
end Jvm.RoadKit
namespace Jvm.Pilot.@@N@@
open Jvm Jvm.ClassFile Sem Op Lib Jvm.Free Jvm.Stand Jvm.LawKit Jvm.RoadKit Bundle Jvm.Pilot.@@N@@.Jvm.D
/-! the goals of a walk, and what closes them -/
def OEnd (p : Program) (e : Env) (below : List Frame) (s T : State) (g : JFrame) (Q : Option Value → Heap → List Loc → Prop) (kc ks : Nat) : Prop :=
  ∃ s₂ o, Steps p.tables e below (T.setTop g) s₂ ∧ s₂.status = .running ∧ Ended s₂ below o ∧ ∃ v L, o = .returned v ∧ Q v s₂.heap L ∧ FrameEnd s o s₂ L kc ks
def ORch (p : Program) (l : Launch) (e : Env) (R : Room) (s : State) (m : MethodId) (args : Array Value) (below : List Frame) (meth : Method) (c : Code) (n0 : Nat) (T : State) (g : JFrame) (h : Heap) (g' : JFrame) (cells slots : Nat) : Prop :=
  ∃ T' locs', Stand p l e R s m args below meth c T' locs' cells slots ∧ T'.heap = h ∧ Fr n0 locs' ∧ Goes p e below T g T' g'
def OArr (Z : State) (h : Heap) (a : Addr) (ty : FieldType) (n : Int32) (vs : List Value) (d : Value) : Prop := ∃ k, Arv Z h a k ty n vs d
def ORchH (p : Program) (l : Launch) (e : Env) (R : Room) (s : State) (m : MethodId) (args : Array Value) (below : List Frame) (meth : Method) (c : Code) (n0 : Nat) (T : State) (g : JFrame) (g' : JFrame) (cells slots : Nat) (P : Heap → Prop) : Prop :=
  ∃ T' h' locs', Stand p l e R s m args below meth c T' locs' cells slots ∧ T'.heap = h' ∧ Fr n0 locs' ∧ P h' ∧ Goes p e below T g T' g'
def ORchB (p : Program) (l : Launch) (e : Env) (R : Room) (s : State) (m : MethodId) (args : Array Value) (below : List Frame) (meth : Method) (c : Code) (n0 : Nat) (T : State) (g : JFrame) (g' : Addr → JFrame) (cells slots : Nat) (P : Heap → Addr → Prop) : Prop :=
  ∃ b T' h' locs', Stand p l e R s m args below meth c T' locs' cells slots ∧ T'.heap = h' ∧ Fr n0 locs' ∧ P h' b ∧ Goes p e below T g T' (g' b)
section Own
variable {p : Program} {l : Launch} {e : Env} {R : Room} {s : State} {m : MethodId} {args : Array Value} {below : List Frame} {meth : Method} {c : Code} {T T' : State} {locs : List Loc} {cells slots : Nat} {g g' g'' : JFrame} {Q : Option Value → Heap → List Loc → Prop} {kc ks : Nat}
theorem OEnd.go (k : Goes p e below T g T' g') (h : OEnd p e below s T' g' Q kc ks) : OEnd p e below s T g Q kc ks := by
  obtain ⟨s₂, o, h1, h2⟩ := h
  exact ⟨s₂, o, k _ h1, h2⟩
theorem ORch.go {n0 : Nat} {h : Heap} (k : Goes p e below T g T' g') (q : ORch p l e R s m args below meth c n0 T' g' h g'' cells slots) : ORch p l e R s m args below meth c n0 T g h g'' cells slots := by
  obtain ⟨T2, L2, h1, h2, h3, h4⟩ := q
  exact ⟨T2, L2, h1, h2, h3, fun t kt => k _ (h4 t kt)⟩
theorem ORchH.go {n0 : Nat} {P : Heap → Prop} (k : Goes p e below T g T' g') (q : ORchH p l e R s m args below meth c n0 T' g' g'' cells slots P) : ORchH p l e R s m args below meth c n0 T g g'' cells slots P := by
  obtain ⟨T2, h2, L2, h1, h2, h3, h4, h5⟩ := q
  exact ⟨T2, _, L2, h1, h2, h3, h4, fun t kt => k _ (h5 t kt)⟩
theorem ORchB.go {n0 : Nat} {P : Heap → Addr → Prop} {gb : Addr → JFrame} (k : Goes p e below T g T' g') (q : ORchB p l e R s m args below meth c n0 T' g' gb cells slots P) : ORchB p l e R s m args below meth c n0 T g gb cells slots P := by
  obtain ⟨b, T2, h2, L2, h1, h2, h3, h4, h5⟩ := q
  exact ⟨b, T2, _, L2, h1, h2, h3, h4, fun t kt => k _ (h5 t kt)⟩
theorem SGo.go {t : State} (k : Goes p e below T g T' g') (h : Steps p.tables e below (T'.setTop g') t) : Steps p.tables e below (T.setTop g) t := k _ h
theorem own_k {A : Type} {tb : Tables} {f : A → JFrame} {a b : A} {t : State} (q : a = b) (k : Steps tb e below (T.setTop (f a)) t) : Steps tb e below (T.setTop (f b)) t := q ▸ k
theorem own_symm {A : Type} {a b : A} (h : a = b) : b = a := h.symm
theorem own_via {A : Type} {a b c : A} (h : a = b) (k : a = c) : b = c := h.symm.trans k
theorem own_p {A : Type} {P : A → Prop} {a b : A} (q : a = b) (w : P a) : P b := q ▸ w
theorem own_at {h : Heap} {U : Heap} (q : U = h) {P : Heap → Prop} (w : P h) : P U := q ▸ w
theorem OArr.lt {Z : State} {h : Heap} {a : Addr} {ty : FieldType} {n : Int32} {vs : List Value} {d : Value} (F : OArr Z h a ty n vs d) : a < h.size := by obtain ⟨k, V⟩ := F; exact V.lt
theorem OArr.ext {Z : State} {h h' : Heap} {a : Addr} {ty : FieldType} {n : Int32} {vs : List Value} {d : Value} (F : OArr Z h a ty n vs d) (E : Ext h h') : OArr Z h' a ty n vs d := by obtain ⟨k, V⟩ := F; exact ⟨k, V.ext E⟩
theorem OArr.other {Z : State} {h h' : Heap} {a b : Addr} {ty : FieldType} {n : Int32} {vs : List Value} {d v : Value} {sl : Nat} (F : OArr Z h b ty n vs d) (W : Wr h h' a sl v) (q : b ≠ a) : OArr Z h' b ty n vs d := by obtain ⟨k, V⟩ := F; exact ⟨k, V.other W q⟩
theorem OArr.keep {Z : State} {h h' : Heap} {a : Addr} {ty : FieldType} {n : Int32} {vs : List Value} {d : Value} {ws : List Addr} (F : OArr Z h a ty n vs d) (K : Keep h h' ws) (q : a ∉ ws) : OArr Z h' a ty n vs d := by obtain ⟨k, V⟩ := F; exact ⟨k, V.keep K q⟩
theorem OEnd.int (X : Stand p l e R s m args below meth c T locs cells slots) (hx : p.tables.exec = Jvm.exec) {pc : Nat} {Ls : Array Slot} {z : Int32} {rest : List Value} (hret : meth.sig.returnType = some .int) (hlk : meth.locks = false) (hd : decode c.code pc = .ok (.ireturn, 1)) (hq : Q (some (.int z)) T.heap locs) (hc : cells ≤ kc) (hs : slots ≤ ks) :
    OEnd p e below s T (mkF m pc Ls (.int z :: rest)) Q kc ks := by
  obtain ⟨fs, hr, hrun, hended, hW, hsame⟩ := X.leave (v := some (.int z)) (fun h => by rw [hret] at h; cases h) hlk
  exact ⟨_, _, retI X hx hret hd hr, hrun, hended, _, _, rfl, hq, ⟨_, rfl⟩, hW, hsame.mono hc hs⟩
theorem OEnd.nar (X : Stand p l e R s m args below meth c T locs cells slots) (hx : p.tables.exec = Jvm.exec) {pc : Nat} {Ls : Array Slot} {z : Int32} {rest : List Value} {t : FieldType} (hret : meth.sig.returnType = some t) (ht : t = .boolean ∨ t = .byte ∨ t = .char ∨ t = .short) (hlk : meth.locks = false) (hd : decode c.code pc = .ok (.ireturn, 1)) (hq : Q (some (.int (nar t z))) T.heap locs) (hc : cells ≤ kc) (hs : slots ≤ ks) :
    OEnd p e below s T (mkF m pc Ls (.int z :: rest)) Q kc ks := by
  obtain ⟨fs, hr, hrun, hended, hW, hsame⟩ := X.leave (v := some (.int (RoadKit.nar t z))) (fun h => by rw [hret] at h; cases h) hlk
  exact ⟨_, _, retN X hx hret ht hd hr, hrun, hended, _, _, rfl, hq, ⟨_, rfl⟩, hW, hsame.mono hc hs⟩
theorem OEnd.long (X : Stand p l e R s m args below meth c T locs cells slots) (hx : p.tables.exec = Jvm.exec) {pc : Nat} {Ls : Array Slot} {z : Int64} (hret : meth.sig.returnType = some .long) (hlk : meth.locks = false) (hd : decode c.code pc = .ok (.lreturn, 1)) (hq : Q (some (.long z)) T.heap locs) (hc : cells ≤ kc) (hs : slots ≤ ks) :
    OEnd p e below s T (mkF m pc Ls [.long z]) Q kc ks := by
  obtain ⟨fs, hr, hrun, hended, hW, hsame⟩ := X.leave (v := some (.long z)) (fun h => by rw [hret] at h; cases h) hlk
  exact ⟨_, _, X.lreturnOut hx hret hd hr, hrun, hended, _, _, rfl, hq, ⟨_, rfl⟩, hW, hsame.mono hc hs⟩
theorem OEnd.void (X : Stand p l e R s m args below meth c T locs cells slots) (hx : p.tables.exec = Jvm.exec) {pc : Nat} {Ls : Array Slot} (hret : meth.sig.returnType = none) (hlk : meth.locks = false) (hd : decode c.code pc = .ok (.return_, 1)) (hq : Q none T.heap locs) (hc : cells ≤ kc) (hs : slots ≤ ks) :
    OEnd p e below s T (mkF m pc Ls []) Q kc ks := by
  obtain ⟨fs, hr, hrun, hended, hW, hsame⟩ := X.leave (v := none) (fun _ => rfl) hlk
  exact ⟨_, _, X.returnOut hx hret hd hr, hrun, hended, _, _, rfl, hq, ⟨_, rfl⟩, hW, hsame.mono hc hs⟩
end Own
theorem d1_0 : decode jdk_29_method_69_code 0 = .ok (.iload_n 0, 1) := by decide +kernel
theorem d1_1 : decode jdk_29_method_69_code 1 = .ok (.iload_n 1, 1) := by decide +kernel
theorem d1_2 : decode jdk_29_method_69_code 2 = .ok (.if_icmp .gt 7, 3) := by decide +kernel
theorem d1_9 : decode jdk_29_method_69_code 9 = .ok (.iload_n 1, 1) := by decide +kernel
theorem d1_5 : decode jdk_29_method_69_code 5 = .ok (.iload_n 0, 1) := by decide +kernel
theorem d1_6 : decode jdk_29_method_69_code 6 = .ok (.goto 4, 3) := by decide +kernel
theorem d1_10 : decode jdk_29_method_69_code 10 = .ok (.ireturn, 1) := by decide +kernel
def f1 (p0 : Int32) (p1 : Int32) : Int32 := (if p1 < p0 then p1 else p0)
theorem ef_1 (m : MethodId) (x0 : Int32) (x1 : Int32) : entryFrame m #[(.int x0), (.int x1)] 2 = mkF m 0 #[.val (.int x0), .val (.int x1)] [] := by first | (simp [entryFrame, mkF, argsToLocals, Value.category]; done) | rfl
def Q1 (Z : State) (p0 : Int32) (p1 : Int32) (h0 : Heap) (n0 : Nat) (v : Option Value) (h : Heap) (L : List Loc) : Prop := v = some (.int (f1 p0 p1)) ∧ Fr n0 L ∧ h = h0
set_option maxRecDepth 65536 in
set_option maxHeartbeats 40000000 in
theorem rm1 (l : Launch) (Z : State) (aZ : Array Value) (hw : ∀ d ∈ tables_1, d.before aZ Z = true) (ws : List Jvm.Cond) (p0 : Int32) (p1 : Int32) (h0 : Heap) (n0 : Nat) (Z0 : n0 ≤ h0.size) :
    MetFree l (⟨"java/lang/Math", "min", "(II)I"⟩ : MethodName) (head1 (Jvm.Cond.code (⟨"java/lang/Math", "min", "(II)I"⟩ : MethodName) jdk_29_method_69_code 2 (some .int) :: ws) ({ frames := 0, cells := 0, slots := 0, locals := 0 } : Room)) (fun a U => a = #[(.int p0), (.int p1)] ∧ Z.Warmed39 U.vm ∧ U.heap = h0) (fun _ _ _ _ _ => True) (fun _ U o U' => ∃ v L, o = .returned v ∧ Q1 Z p0 p1 h0 n0 v U'.heap L ∧ FrameEnd U o U' L ({ frames := 0, cells := 0, slots := 0, locals := 0 } : Room).cells ({ frames := 0, cells := 0, slots := 0, locals := 0 } : Room).slots) := by
  refine MetFree.of_bodySF (Jvm.Free.JP.mathPlain rfl (by decide +kernel)) hisR ?_
  intro p e s m args below meth c s₁ Bd hml0 hP hK
  obtain ⟨rfl, hZ, hh⟩ := hP
  have hx := Bd.exec
  have hby := Bd.bytes
  have hlk : meth.locks = false := BodyLoose.notSynchronized Bd
  have hml : c.maxLocals = 2 := hml0
  have hown : s.vm.findClass "java/lang/Math" = some m.cls := findClass_of_methodNamed Bd.named
  have hnm := (name_of_methodNamed Bd.named Bd.method).1
  have X0 : Stand p l e ({ frames := 0, cells := 0, slots := 0, locals := 0 } : Room) s m #[(.int p0), (.int p1)] below meth c s₁ [] 0 0 := Stand.of_body Bd
  have e0 : s₁.heap = h0 := by rw [← hh, Bd.state]; rfl
  have N0 := Fr.nil n0
  show OEnd p e below s s₁ (entryFrame m #[(.int p0), (.int p1)] 2) (Q1 Z p0 p1 h0 n0) ({ frames := 0, cells := 0, slots := 0, locals := 0 } : Room).cells ({ frames := 0, cells := 0, slots := 0, locals := 0 } : Room).slots
  refine OEnd.go (g' := (mkF m 0 #[.val (.int p0), .val (.int p1)] [])) (fun _ k => castTop (ef_1 m p0 p1) k) ?_
  refine OEnd.go (T' := s₁) (g' := (mkF m 2 #[.val (.int p0), .val (.int p1)] [(.int p1), (.int p0)])) (fun t k => ?_) ?_
  · show Steps p.tables e below (s₁.setTop (mkF m 0 #[.val (.int p0), .val (.int p1)] [])) t
    refine XS.iloadN X0.here hx rfl (hb hby d1_0) rfl ?_
    show Steps p.tables e below (s₁.setTop (mkF m 1 #[.val (.int p0), .val (.int p1)] [(.int p0)])) t
    refine XS.iloadN X0.here hx rfl (hb hby d1_1) rfl ?_
    show Steps p.tables e below (s₁.setTop (mkF m 2 #[.val (.int p0), .val (.int p1)] [(.int p1), (.int p0)])) t
    exact k
  refine OEnd.go (T' := s₁) (g' := (mkF m 10 #[.val (.int p0), .val (.int p1)] [(.int (if p1 < p0 then p1 else p0))])) (fun t k => ?_) ?_
  · show Steps p.tables e below (s₁.setTop (mkF m 2 #[.val (.int p0), .val (.int p1)] [(.int p1), (.int p0)])) t
    by_cases hc1 : p1 < p0
    · skip
      refine XS.icmpYes X0.here hx rfl (pc0 := 2) (pc' := 9) rfl (hb hby d1_2) rfl (tlt (hc1)).2.2.1 (by decide) (by decide) ?_
      show Steps p.tables e below (s₁.setTop (mkF m 9 #[.val (.int p0), .val (.int p1)] [])) t
      refine SGo.go (T' := s₁) (g' := (mkF m 10 #[.val (.int p0), .val (.int p1)] [(.int p1)])) (fun t k => ?_) ?_
      · show Steps p.tables e below (s₁.setTop (mkF m 9 #[.val (.int p0), .val (.int p1)] [])) t
        refine XS.iloadN X0.here hx rfl (hb hby d1_9) rfl ?_
        show Steps p.tables e below (s₁.setTop (mkF m 10 #[.val (.int p0), .val (.int p1)] [(.int p1)])) t
        exact k
      exact (own_k (f := fun (z : Int32) => mkF m 10 #[.val (.int p0), .val (.int p1)] [(.int z)]) (if_pos hc1) k)
    · skip
      refine XS.icmpNo X0.here hx rfl (hb hby d1_2) rfl (flt (hc1)).2.2.1 ?_
      show Steps p.tables e below (s₁.setTop (mkF m 5 #[.val (.int p0), .val (.int p1)] [])) t
      refine SGo.go (T' := s₁) (g' := (mkF m 10 #[.val (.int p0), .val (.int p1)] [(.int p0)])) (fun t k => ?_) ?_
      · show Steps p.tables e below (s₁.setTop (mkF m 5 #[.val (.int p0), .val (.int p1)] [])) t
        refine XS.iloadN X0.here hx rfl (hb hby d1_5) rfl ?_
        show Steps p.tables e below (s₁.setTop (mkF m 6 #[.val (.int p0), .val (.int p1)] [(.int p0)])) t
        refine XS.goto X0.here hx rfl (pc0 := 6) (pc' := 10) rfl (hb hby d1_6) (by decide) (by decide) ?_
        show Steps p.tables e below (s₁.setTop (mkF m 10 #[.val (.int p0), .val (.int p1)] [(.int p0)])) t
        exact k
      exact (own_k (f := fun (z : Int32) => mkF m 10 #[.val (.int p0), .val (.int p1)] [(.int z)]) (if_neg hc1) k)
  exact OEnd.int X0 hx Bd.returns hlk (hb hby d1_10) ⟨rfl, N0, e0⟩ (by decide) (by decide)
theorem d2_0 : decode jdk_29_method_65_code 0 = .ok (.iload_n 0, 1) := by decide +kernel
theorem d2_1 : decode jdk_29_method_65_code 1 = .ok (.iload_n 1, 1) := by decide +kernel
theorem d2_2 : decode jdk_29_method_65_code 2 = .ok (.if_icmp .lt 7, 3) := by decide +kernel
theorem d2_9 : decode jdk_29_method_65_code 9 = .ok (.iload_n 1, 1) := by decide +kernel
theorem d2_5 : decode jdk_29_method_65_code 5 = .ok (.iload_n 0, 1) := by decide +kernel
theorem d2_6 : decode jdk_29_method_65_code 6 = .ok (.goto 4, 3) := by decide +kernel
theorem d2_10 : decode jdk_29_method_65_code 10 = .ok (.ireturn, 1) := by decide +kernel
def f2 (p0 : Int32) (p1 : Int32) : Int32 := (if p0 < p1 then p1 else p0)
theorem ef_2 (m : MethodId) (x0 : Int32) (x1 : Int32) : entryFrame m #[(.int x0), (.int x1)] 2 = mkF m 0 #[.val (.int x0), .val (.int x1)] [] := by first | (simp [entryFrame, mkF, argsToLocals, Value.category]; done) | rfl
def Q2 (Z : State) (p0 : Int32) (p1 : Int32) (h0 : Heap) (n0 : Nat) (v : Option Value) (h : Heap) (L : List Loc) : Prop := v = some (.int (f2 p0 p1)) ∧ Fr n0 L ∧ h = h0
set_option maxRecDepth 65536 in
set_option maxHeartbeats 40000000 in
theorem rm2 (l : Launch) (Z : State) (aZ : Array Value) (hw : ∀ d ∈ tables_1, d.before aZ Z = true) (ws : List Jvm.Cond) (p0 : Int32) (p1 : Int32) (h0 : Heap) (n0 : Nat) (Z0 : n0 ≤ h0.size) :
    MetFree l (⟨"java/lang/Math", "max", "(II)I"⟩ : MethodName) (head1 (Jvm.Cond.code (⟨"java/lang/Math", "max", "(II)I"⟩ : MethodName) jdk_29_method_65_code 2 (some .int) :: ws) ({ frames := 0, cells := 0, slots := 0, locals := 0 } : Room)) (fun a U => a = #[(.int p0), (.int p1)] ∧ Z.Warmed39 U.vm ∧ U.heap = h0) (fun _ _ _ _ _ => True) (fun _ U o U' => ∃ v L, o = .returned v ∧ Q2 Z p0 p1 h0 n0 v U'.heap L ∧ FrameEnd U o U' L ({ frames := 0, cells := 0, slots := 0, locals := 0 } : Room).cells ({ frames := 0, cells := 0, slots := 0, locals := 0 } : Room).slots) := by
  refine MetFree.of_bodySF (Jvm.Free.JP.mathPlain rfl (by decide +kernel)) hisR ?_
  intro p e s m args below meth c s₁ Bd hml0 hP hK
  obtain ⟨rfl, hZ, hh⟩ := hP
  have hx := Bd.exec
  have hby := Bd.bytes
  have hlk : meth.locks = false := BodyLoose.notSynchronized Bd
  have hml : c.maxLocals = 2 := hml0
  have hown : s.vm.findClass "java/lang/Math" = some m.cls := findClass_of_methodNamed Bd.named
  have hnm := (name_of_methodNamed Bd.named Bd.method).1
  have X0 : Stand p l e ({ frames := 0, cells := 0, slots := 0, locals := 0 } : Room) s m #[(.int p0), (.int p1)] below meth c s₁ [] 0 0 := Stand.of_body Bd
  have e0 : s₁.heap = h0 := by rw [← hh, Bd.state]; rfl
  have N0 := Fr.nil n0
  show OEnd p e below s s₁ (entryFrame m #[(.int p0), (.int p1)] 2) (Q2 Z p0 p1 h0 n0) ({ frames := 0, cells := 0, slots := 0, locals := 0 } : Room).cells ({ frames := 0, cells := 0, slots := 0, locals := 0 } : Room).slots
  refine OEnd.go (g' := (mkF m 0 #[.val (.int p0), .val (.int p1)] [])) (fun _ k => castTop (ef_2 m p0 p1) k) ?_
  refine OEnd.go (T' := s₁) (g' := (mkF m 2 #[.val (.int p0), .val (.int p1)] [(.int p1), (.int p0)])) (fun t k => ?_) ?_
  · show Steps p.tables e below (s₁.setTop (mkF m 0 #[.val (.int p0), .val (.int p1)] [])) t
    refine XS.iloadN X0.here hx rfl (hb hby d2_0) rfl ?_
    show Steps p.tables e below (s₁.setTop (mkF m 1 #[.val (.int p0), .val (.int p1)] [(.int p0)])) t
    refine XS.iloadN X0.here hx rfl (hb hby d2_1) rfl ?_
    show Steps p.tables e below (s₁.setTop (mkF m 2 #[.val (.int p0), .val (.int p1)] [(.int p1), (.int p0)])) t
    exact k
  refine OEnd.go (T' := s₁) (g' := (mkF m 10 #[.val (.int p0), .val (.int p1)] [(.int (if p0 < p1 then p1 else p0))])) (fun t k => ?_) ?_
  · show Steps p.tables e below (s₁.setTop (mkF m 2 #[.val (.int p0), .val (.int p1)] [(.int p1), (.int p0)])) t
    by_cases hc1 : p0 < p1
    · skip
      refine XS.icmpYes X0.here hx rfl (pc0 := 2) (pc' := 9) rfl (hb hby d2_2) rfl (tlt (hc1)).1 (by decide) (by decide) ?_
      show Steps p.tables e below (s₁.setTop (mkF m 9 #[.val (.int p0), .val (.int p1)] [])) t
      refine SGo.go (T' := s₁) (g' := (mkF m 10 #[.val (.int p0), .val (.int p1)] [(.int p1)])) (fun t k => ?_) ?_
      · show Steps p.tables e below (s₁.setTop (mkF m 9 #[.val (.int p0), .val (.int p1)] [])) t
        refine XS.iloadN X0.here hx rfl (hb hby d2_9) rfl ?_
        show Steps p.tables e below (s₁.setTop (mkF m 10 #[.val (.int p0), .val (.int p1)] [(.int p1)])) t
        exact k
      exact (own_k (f := fun (z : Int32) => mkF m 10 #[.val (.int p0), .val (.int p1)] [(.int z)]) (if_pos hc1) k)
    · skip
      refine XS.icmpNo X0.here hx rfl (hb hby d2_2) rfl (flt (hc1)).1 ?_
      show Steps p.tables e below (s₁.setTop (mkF m 5 #[.val (.int p0), .val (.int p1)] [])) t
      refine SGo.go (T' := s₁) (g' := (mkF m 10 #[.val (.int p0), .val (.int p1)] [(.int p0)])) (fun t k => ?_) ?_
      · show Steps p.tables e below (s₁.setTop (mkF m 5 #[.val (.int p0), .val (.int p1)] [])) t
        refine XS.iloadN X0.here hx rfl (hb hby d2_5) rfl ?_
        show Steps p.tables e below (s₁.setTop (mkF m 6 #[.val (.int p0), .val (.int p1)] [(.int p0)])) t
        refine XS.goto X0.here hx rfl (pc0 := 6) (pc' := 10) rfl (hb hby d2_6) (by decide) (by decide) ?_
        show Steps p.tables e below (s₁.setTop (mkF m 10 #[.val (.int p0), .val (.int p1)] [(.int p0)])) t
        exact k
      exact (own_k (f := fun (z : Int32) => mkF m 10 #[.val (.int p0), .val (.int p1)] [(.int z)]) (if_neg hc1) k)
  exact OEnd.int X0 hx Bd.returns hlk (hb hby d2_10) ⟨rfl, N0, e0⟩ (by decide) (by decide)
theorem d3_0 : decode method_3_code 0 = .ok (.iload_n 0, 1) := by decide +kernel
theorem d3_1 : decode method_3_code 1 = .ok (.istore 6, 2) := by decide +kernel
theorem d3_3 : decode method_3_code 3 = .ok (.iload 4, 2) := by decide +kernel
theorem d3_5 : decode method_3_code 5 = .ok (.iconst 1, 1) := by decide +kernel
theorem d3_6 : decode method_3_code 6 = .ok (.if_icmp .ne 9, 3) := by decide +kernel
theorem d3_9 : decode method_3_code 9 = .ok (.iload_n 1, 1) := by decide +kernel
theorem d3_10 : decode method_3_code 10 = .ok (.istore 6, 2) := by decide +kernel
theorem d3_12 : decode method_3_code 12 = .ok (.goto 24, 3) := by decide +kernel
theorem d3_15 : decode method_3_code 15 = .ok (.iload 4, 2) := by decide +kernel
theorem d3_17 : decode method_3_code 17 = .ok (.iconst 2, 1) := by decide +kernel
theorem d3_18 : decode method_3_code 18 = .ok (.if_icmp .ne 9, 3) := by decide +kernel
theorem d3_21 : decode method_3_code 21 = .ok (.iload_n 2, 1) := by decide +kernel
theorem d3_22 : decode method_3_code 22 = .ok (.istore 6, 2) := by decide +kernel
theorem d3_24 : decode method_3_code 24 = .ok (.goto 12, 3) := by decide +kernel
theorem d3_27 : decode method_3_code 27 = .ok (.iload 4, 2) := by decide +kernel
theorem d3_29 : decode method_3_code 29 = .ok (.iconst 3, 1) := by decide +kernel
theorem d3_30 : decode method_3_code 30 = .ok (.if_icmp .ne 6, 3) := by decide +kernel
theorem d3_33 : decode method_3_code 33 = .ok (.iload_n 3, 1) := by decide +kernel
theorem d3_34 : decode method_3_code 34 = .ok (.istore 6, 2) := by decide +kernel
theorem d3_36 : decode method_3_code 36 = .ok (.iload 5, 2) := by decide +kernel
theorem d3_38 : decode method_3_code 38 = .ok (.iconst 2, 1) := by decide +kernel
theorem d3_39 : decode method_3_code 39 = .ok (.if_icmp .ne 8, 3) := by decide +kernel
theorem d3_42 : decode method_3_code 42 = .ok (.iload 6, 2) := by decide +kernel
theorem d3_44 : decode method_3_code 44 = .ok (.iconst 1, 1) := by decide +kernel
theorem d3_45 : decode method_3_code 45 = .ok (.iadd, 1) := by decide +kernel
theorem d3_46 : decode method_3_code 46 = .ok (.ireturn, 1) := by decide +kernel
theorem d3_47 : decode method_3_code 47 = .ok (.iload 5, 2) := by decide +kernel
theorem d3_49 : decode method_3_code 49 = .ok (.iconst 3, 1) := by decide +kernel
theorem d3_50 : decode method_3_code 50 = .ok (.if_icmp .ne 8, 3) := by decide +kernel
theorem d3_53 : decode method_3_code 53 = .ok (.iload 6, 2) := by decide +kernel
theorem d3_55 : decode method_3_code 55 = .ok (.iconst 1, 1) := by decide +kernel
theorem d3_56 : decode method_3_code 56 = .ok (.isub, 1) := by decide +kernel
theorem d3_57 : decode method_3_code 57 = .ok (.ireturn, 1) := by decide +kernel
theorem d3_58 : decode method_3_code 58 = .ok (.iload 6, 2) := by decide +kernel
theorem d3_60 : decode method_3_code 60 = .ok (.ireturn, 1) := by decide +kernel
def v3_36_6 (p0 : Int32) (p1 : Int32) (p2 : Int32) (p3 : Int32) (p4 : Int32) (p5 : Int32) : Int32 := (if p4 = (1 : Int32) then p1 else (if p4 = (2 : Int32) then p2 else (if p4 = (3 : Int32) then p3 else p0)))
def la3_0 (p0 : Int32) (p1 : Int32) (p2 : Int32) (p3 : Int32) (p4 : Int32) (p5 : Int32) : Array Slot := #[.val (.int p0), .val (.int p1), .val (.int p2), .val (.int p3), .val (.int p4), .val (.int p5), .val (.int (if p4 = (1 : Int32) then p1 else (if p4 = (2 : Int32) then p2 else (if p4 = (3 : Int32) then p3 else p0))))]
def f3 (p0 : Int32) (p1 : Int32) (p2 : Int32) (p3 : Int32) (p4 : Int32) (p5 : Int32) : Int32 := (if p5 = (2 : Int32) then ((v3_36_6 p0 p1 p2 p3 p4 p5) + (1 : Int32)) else (if p5 = (3 : Int32) then ((v3_36_6 p0 p1 p2 p3 p4 p5) - (1 : Int32)) else (v3_36_6 p0 p1 p2 p3 p4 p5)))
theorem pn_com_example_nuthatch_nuthatch_logic_DemandsWithinPinLaw : plainName "com/example/nuthatch/nuthatch/logic/DemandsWithinPinLaw" = true := by first | (simp [plainName, overriddenIn]; done) | decide +kernel
theorem ef_3 (m : MethodId) (x0 : Int32) (x1 : Int32) (x2 : Int32) (x3 : Int32) (x4 : Int32) (x5 : Int32) : entryFrame m #[(.int x0), (.int x1), (.int x2), (.int x3), (.int x4), (.int x5)] 7 = mkF m 0 #[.val (.int x0), .val (.int x1), .val (.int x2), .val (.int x3), .val (.int x4), .val (.int x5), .unset] [] := by first | (simp [entryFrame, mkF, argsToLocals, Value.category]; done) | rfl
def Q3 (Z : State) (p0 : Int32) (p1 : Int32) (p2 : Int32) (p3 : Int32) (p4 : Int32) (p5 : Int32) (h0 : Heap) (n0 : Nat) (v : Option Value) (h : Heap) (L : List Loc) : Prop := v = some (.int (f3 p0 p1 p2 p3 p4 p5)) ∧ Fr n0 L ∧ h = h0
set_option maxRecDepth 65536 in
set_option maxHeartbeats 40000000 in
theorem rm3 (l : Launch) (Z : State) (aZ : Array Value) (hw : ∀ d ∈ tables_1, d.before aZ Z = true) (ws : List Jvm.Cond) (p0 : Int32) (p1 : Int32) (p2 : Int32) (p3 : Int32) (p4 : Int32) (p5 : Int32) (h0 : Heap) (n0 : Nat) (Z0 : n0 ≤ h0.size) :
    MetFree l (⟨"com/example/nuthatch/nuthatch/logic/DemandsWithinPinLaw", "pick", "(IIIIII)I"⟩ : MethodName) (head1 (Jvm.Cond.code (⟨"com/example/nuthatch/nuthatch/logic/DemandsWithinPinLaw", "pick", "(IIIIII)I"⟩ : MethodName) method_3_code 7 (some .int) :: ws) ({ frames := 0, cells := 0, slots := 0, locals := 0 } : Room)) (fun a U => a = #[(.int p0), (.int p1), (.int p2), (.int p3), (.int p4), (.int p5)] ∧ Z.Warmed39 U.vm ∧ U.heap = h0) (fun _ _ _ _ _ => True) (fun _ U o U' => ∃ v L, o = .returned v ∧ Q3 Z p0 p1 p2 p3 p4 p5 h0 n0 v U'.heap L ∧ FrameEnd U o U' L ({ frames := 0, cells := 0, slots := 0, locals := 0 } : Room).cells ({ frames := 0, cells := 0, slots := 0, locals := 0 } : Room).slots) := by
  refine MetFree.of_bodySF (plainFor_of_name pn_com_example_nuthatch_nuthatch_logic_DemandsWithinPinLaw) hisR ?_
  intro p e s m args below meth c s₁ Bd hml0 hP hK
  obtain ⟨rfl, hZ, hh⟩ := hP
  have hx := Bd.exec
  have hby := Bd.bytes
  have hlk : meth.locks = false := BodyLoose.notSynchronized Bd
  have hml : c.maxLocals = 7 := hml0
  have hown : s.vm.findClass "com/example/nuthatch/nuthatch/logic/DemandsWithinPinLaw" = some m.cls := findClass_of_methodNamed Bd.named
  have hnm := (name_of_methodNamed Bd.named Bd.method).1
  have X0 : Stand p l e ({ frames := 0, cells := 0, slots := 0, locals := 0 } : Room) s m #[(.int p0), (.int p1), (.int p2), (.int p3), (.int p4), (.int p5)] below meth c s₁ [] 0 0 := Stand.of_body Bd
  have e0 : s₁.heap = h0 := by rw [← hh, Bd.state]; rfl
  have N0 := Fr.nil n0
  show OEnd p e below s s₁ (entryFrame m #[(.int p0), (.int p1), (.int p2), (.int p3), (.int p4), (.int p5)] 7) (Q3 Z p0 p1 p2 p3 p4 p5 h0 n0) ({ frames := 0, cells := 0, slots := 0, locals := 0 } : Room).cells ({ frames := 0, cells := 0, slots := 0, locals := 0 } : Room).slots
  refine OEnd.go (g' := (mkF m 0 #[.val (.int p0), .val (.int p1), .val (.int p2), .val (.int p3), .val (.int p4), .val (.int p5), .unset] [])) (fun _ k => castTop (ef_3 m p0 p1 p2 p3 p4 p5) k) ?_
  refine OEnd.go (T' := s₁) (g' := (mkF m 6 #[.val (.int p0), .val (.int p1), .val (.int p2), .val (.int p3), .val (.int p4), .val (.int p5), .val (.int p0)] [(.int (1 : Int32)), (.int p4)])) (fun t k => ?_) ?_
  · show Steps p.tables e below (s₁.setTop (mkF m 0 #[.val (.int p0), .val (.int p1), .val (.int p2), .val (.int p3), .val (.int p4), .val (.int p5), .unset] [])) t
    refine XS.iloadN X0.here hx rfl (hb hby d3_0) rfl ?_
    show Steps p.tables e below (s₁.setTop (mkF m 1 #[.val (.int p0), .val (.int p1), .val (.int p2), .val (.int p3), .val (.int p4), .val (.int p5), .unset] [(.int p0)])) t
    refine XS.istore X0.here hx rfl (hb hby d3_1) rfl (l' := #[.val (.int p0), .val (.int p1), .val (.int p2), .val (.int p3), .val (.int p4), .val (.int p5), .val (.int p0)]) rfl ?_
    show Steps p.tables e below (s₁.setTop (mkF m 3 #[.val (.int p0), .val (.int p1), .val (.int p2), .val (.int p3), .val (.int p4), .val (.int p5), .val (.int p0)] [])) t
    refine XS.iload X0.here hx rfl (hb hby d3_3) rfl ?_
    show Steps p.tables e below (s₁.setTop (mkF m 5 #[.val (.int p0), .val (.int p1), .val (.int p2), .val (.int p3), .val (.int p4), .val (.int p5), .val (.int p0)] [(.int p4)])) t
    refine XS.iconst X0.here hx rfl (hb hby d3_5) ?_
    show Steps p.tables e below (s₁.setTop (mkF m 6 #[.val (.int p0), .val (.int p1), .val (.int p2), .val (.int p3), .val (.int p4), .val (.int p5), .val (.int p0)] [(.int (1 : Int32)), (.int p4)])) t
    exact k
  refine OEnd.go (T' := s₁) (g' := (mkF m 36 (la3_0 p0 p1 p2 p3 p4 p5) [])) (fun t k => ?_) ?_
  · show Steps p.tables e below (s₁.setTop (mkF m 6 #[.val (.int p0), .val (.int p1), .val (.int p2), .val (.int p3), .val (.int p4), .val (.int p5), .val (.int p0)] [(.int (1 : Int32)), (.int p4)])) t
    by_cases hc1 : p4 = (1 : Int32)
    · skip
      refine XS.icmpNo X0.here hx rfl (hb hby d3_6) rfl (teq (hc1)).2 ?_
      show Steps p.tables e below (s₁.setTop (mkF m 9 #[.val (.int p0), .val (.int p1), .val (.int p2), .val (.int p3), .val (.int p4), .val (.int p5), .val (.int p0)] [])) t
      refine SGo.go (T' := s₁) (g' := (mkF m 36 #[.val (.int p0), .val (.int p1), .val (.int p2), .val (.int p3), .val (.int p4), .val (.int p5), .val (.int p1)] [])) (fun t k => ?_) ?_
      · show Steps p.tables e below (s₁.setTop (mkF m 9 #[.val (.int p0), .val (.int p1), .val (.int p2), .val (.int p3), .val (.int p4), .val (.int p5), .val (.int p0)] [])) t
        refine XS.iloadN X0.here hx rfl (hb hby d3_9) rfl ?_
        show Steps p.tables e below (s₁.setTop (mkF m 10 #[.val (.int p0), .val (.int p1), .val (.int p2), .val (.int p3), .val (.int p4), .val (.int p5), .val (.int p0)] [(.int p1)])) t
        refine XS.istore X0.here hx rfl (hb hby d3_10) rfl (l' := #[.val (.int p0), .val (.int p1), .val (.int p2), .val (.int p3), .val (.int p4), .val (.int p5), .val (.int p1)]) rfl ?_
        show Steps p.tables e below (s₁.setTop (mkF m 12 #[.val (.int p0), .val (.int p1), .val (.int p2), .val (.int p3), .val (.int p4), .val (.int p5), .val (.int p1)] [])) t
        refine XS.goto X0.here hx rfl (pc0 := 12) (pc' := 36) rfl (hb hby d3_12) (by decide) (by decide) ?_
        show Steps p.tables e below (s₁.setTop (mkF m 36 #[.val (.int p0), .val (.int p1), .val (.int p2), .val (.int p3), .val (.int p4), .val (.int p5), .val (.int p1)] [])) t
        exact k
      exact (own_k (f := fun (z : Int32) => mkF m 36 #[.val (.int p0), .val (.int p1), .val (.int p2), .val (.int p3), .val (.int p4), .val (.int p5), .val (.int z)] []) (if_pos hc1) k)
    · skip
      refine XS.icmpYes X0.here hx rfl (pc0 := 6) (pc' := 15) rfl (hb hby d3_6) rfl (feq (hc1)).2 (by decide) (by decide) ?_
      show Steps p.tables e below (s₁.setTop (mkF m 15 #[.val (.int p0), .val (.int p1), .val (.int p2), .val (.int p3), .val (.int p4), .val (.int p5), .val (.int p0)] [])) t
      refine SGo.go (T' := s₁) (g' := (mkF m 18 #[.val (.int p0), .val (.int p1), .val (.int p2), .val (.int p3), .val (.int p4), .val (.int p5), .val (.int p0)] [(.int (2 : Int32)), (.int p4)])) (fun t k => ?_) ?_
      · show Steps p.tables e below (s₁.setTop (mkF m 15 #[.val (.int p0), .val (.int p1), .val (.int p2), .val (.int p3), .val (.int p4), .val (.int p5), .val (.int p0)] [])) t
        refine XS.iload X0.here hx rfl (hb hby d3_15) rfl ?_
        show Steps p.tables e below (s₁.setTop (mkF m 17 #[.val (.int p0), .val (.int p1), .val (.int p2), .val (.int p3), .val (.int p4), .val (.int p5), .val (.int p0)] [(.int p4)])) t
        refine XS.iconst X0.here hx rfl (hb hby d3_17) ?_
        show Steps p.tables e below (s₁.setTop (mkF m 18 #[.val (.int p0), .val (.int p1), .val (.int p2), .val (.int p3), .val (.int p4), .val (.int p5), .val (.int p0)] [(.int (2 : Int32)), (.int p4)])) t
        exact k
      by_cases hc2 : p4 = (2 : Int32)
      · skip
        refine XS.icmpNo X0.here hx rfl (hb hby d3_18) rfl (teq (hc2)).2 ?_
        show Steps p.tables e below (s₁.setTop (mkF m 21 #[.val (.int p0), .val (.int p1), .val (.int p2), .val (.int p3), .val (.int p4), .val (.int p5), .val (.int p0)] [])) t
        refine SGo.go (T' := s₁) (g' := (mkF m 36 #[.val (.int p0), .val (.int p1), .val (.int p2), .val (.int p3), .val (.int p4), .val (.int p5), .val (.int p2)] [])) (fun t k => ?_) ?_
        · show Steps p.tables e below (s₁.setTop (mkF m 21 #[.val (.int p0), .val (.int p1), .val (.int p2), .val (.int p3), .val (.int p4), .val (.int p5), .val (.int p0)] [])) t
          refine XS.iloadN X0.here hx rfl (hb hby d3_21) rfl ?_
          show Steps p.tables e below (s₁.setTop (mkF m 22 #[.val (.int p0), .val (.int p1), .val (.int p2), .val (.int p3), .val (.int p4), .val (.int p5), .val (.int p0)] [(.int p2)])) t
          refine XS.istore X0.here hx rfl (hb hby d3_22) rfl (l' := #[.val (.int p0), .val (.int p1), .val (.int p2), .val (.int p3), .val (.int p4), .val (.int p5), .val (.int p2)]) rfl ?_
          show Steps p.tables e below (s₁.setTop (mkF m 24 #[.val (.int p0), .val (.int p1), .val (.int p2), .val (.int p3), .val (.int p4), .val (.int p5), .val (.int p2)] [])) t
          refine XS.goto X0.here hx rfl (pc0 := 24) (pc' := 36) rfl (hb hby d3_24) (by decide) (by decide) ?_
          show Steps p.tables e below (s₁.setTop (mkF m 36 #[.val (.int p0), .val (.int p1), .val (.int p2), .val (.int p3), .val (.int p4), .val (.int p5), .val (.int p2)] [])) t
          exact k
        exact (own_k (f := fun (z : Int32) => mkF m 36 #[.val (.int p0), .val (.int p1), .val (.int p2), .val (.int p3), .val (.int p4), .val (.int p5), .val (.int z)] []) ((if_neg hc1).trans (if_pos hc2)) k)
      · skip
        refine XS.icmpYes X0.here hx rfl (pc0 := 18) (pc' := 27) rfl (hb hby d3_18) rfl (feq (hc2)).2 (by decide) (by decide) ?_
        show Steps p.tables e below (s₁.setTop (mkF m 27 #[.val (.int p0), .val (.int p1), .val (.int p2), .val (.int p3), .val (.int p4), .val (.int p5), .val (.int p0)] [])) t
        refine SGo.go (T' := s₁) (g' := (mkF m 30 #[.val (.int p0), .val (.int p1), .val (.int p2), .val (.int p3), .val (.int p4), .val (.int p5), .val (.int p0)] [(.int (3 : Int32)), (.int p4)])) (fun t k => ?_) ?_
        · show Steps p.tables e below (s₁.setTop (mkF m 27 #[.val (.int p0), .val (.int p1), .val (.int p2), .val (.int p3), .val (.int p4), .val (.int p5), .val (.int p0)] [])) t
          refine XS.iload X0.here hx rfl (hb hby d3_27) rfl ?_
          show Steps p.tables e below (s₁.setTop (mkF m 29 #[.val (.int p0), .val (.int p1), .val (.int p2), .val (.int p3), .val (.int p4), .val (.int p5), .val (.int p0)] [(.int p4)])) t
          refine XS.iconst X0.here hx rfl (hb hby d3_29) ?_
          show Steps p.tables e below (s₁.setTop (mkF m 30 #[.val (.int p0), .val (.int p1), .val (.int p2), .val (.int p3), .val (.int p4), .val (.int p5), .val (.int p0)] [(.int (3 : Int32)), (.int p4)])) t
          exact k
        by_cases hc3 : p4 = (3 : Int32)
        · skip
          refine XS.icmpNo X0.here hx rfl (hb hby d3_30) rfl (teq (hc3)).2 ?_
          show Steps p.tables e below (s₁.setTop (mkF m 33 #[.val (.int p0), .val (.int p1), .val (.int p2), .val (.int p3), .val (.int p4), .val (.int p5), .val (.int p0)] [])) t
          refine SGo.go (T' := s₁) (g' := (mkF m 36 #[.val (.int p0), .val (.int p1), .val (.int p2), .val (.int p3), .val (.int p4), .val (.int p5), .val (.int p3)] [])) (fun t k => ?_) ?_
          · show Steps p.tables e below (s₁.setTop (mkF m 33 #[.val (.int p0), .val (.int p1), .val (.int p2), .val (.int p3), .val (.int p4), .val (.int p5), .val (.int p0)] [])) t
            refine XS.iloadN X0.here hx rfl (hb hby d3_33) rfl ?_
            show Steps p.tables e below (s₁.setTop (mkF m 34 #[.val (.int p0), .val (.int p1), .val (.int p2), .val (.int p3), .val (.int p4), .val (.int p5), .val (.int p0)] [(.int p3)])) t
            refine XS.istore X0.here hx rfl (hb hby d3_34) rfl (l' := #[.val (.int p0), .val (.int p1), .val (.int p2), .val (.int p3), .val (.int p4), .val (.int p5), .val (.int p3)]) rfl ?_
            show Steps p.tables e below (s₁.setTop (mkF m 36 #[.val (.int p0), .val (.int p1), .val (.int p2), .val (.int p3), .val (.int p4), .val (.int p5), .val (.int p3)] [])) t
            exact k
          exact (own_k (f := fun (z : Int32) => mkF m 36 #[.val (.int p0), .val (.int p1), .val (.int p2), .val (.int p3), .val (.int p4), .val (.int p5), .val (.int z)] []) ((if_neg hc1).trans ((if_neg hc2).trans (if_pos hc3))) k)
        · skip
          refine XS.icmpYes X0.here hx rfl (pc0 := 30) (pc' := 36) rfl (hb hby d3_30) rfl (feq (hc3)).2 (by decide) (by decide) ?_
          show Steps p.tables e below (s₁.setTop (mkF m 36 #[.val (.int p0), .val (.int p1), .val (.int p2), .val (.int p3), .val (.int p4), .val (.int p5), .val (.int p0)] [])) t
          exact (own_k (f := fun (z : Int32) => mkF m 36 #[.val (.int p0), .val (.int p1), .val (.int p2), .val (.int p3), .val (.int p4), .val (.int p5), .val (.int z)] []) ((if_neg hc1).trans ((if_neg hc2).trans (if_neg hc3))) k)
  refine OEnd.go (T' := s₁) (g' := (mkF m 39 #[.val (.int p0), .val (.int p1), .val (.int p2), .val (.int p3), .val (.int p4), .val (.int p5), .val (.int (v3_36_6 p0 p1 p2 p3 p4 p5))] [(.int (2 : Int32)), (.int p5)])) (fun t k => ?_) ?_
  · show Steps p.tables e below (s₁.setTop (mkF m 36 #[.val (.int p0), .val (.int p1), .val (.int p2), .val (.int p3), .val (.int p4), .val (.int p5), .val (.int (v3_36_6 p0 p1 p2 p3 p4 p5))] [])) t
    refine XS.iload X0.here hx rfl (hb hby d3_36) rfl ?_
    show Steps p.tables e below (s₁.setTop (mkF m 38 #[.val (.int p0), .val (.int p1), .val (.int p2), .val (.int p3), .val (.int p4), .val (.int p5), .val (.int (v3_36_6 p0 p1 p2 p3 p4 p5))] [(.int p5)])) t
    refine XS.iconst X0.here hx rfl (hb hby d3_38) ?_
    show Steps p.tables e below (s₁.setTop (mkF m 39 #[.val (.int p0), .val (.int p1), .val (.int p2), .val (.int p3), .val (.int p4), .val (.int p5), .val (.int (v3_36_6 p0 p1 p2 p3 p4 p5))] [(.int (2 : Int32)), (.int p5)])) t
    exact k
  by_cases hc4 : p5 = (2 : Int32)
  · skip
    refine OEnd.go (T' := s₁) (g' := (mkF m 42 #[.val (.int p0), .val (.int p1), .val (.int p2), .val (.int p3), .val (.int p4), .val (.int p5), .val (.int (v3_36_6 p0 p1 p2 p3 p4 p5))] [])) (fun t k => ?_) ?_
    · show Steps p.tables e below (s₁.setTop (mkF m 39 #[.val (.int p0), .val (.int p1), .val (.int p2), .val (.int p3), .val (.int p4), .val (.int p5), .val (.int (v3_36_6 p0 p1 p2 p3 p4 p5))] [(.int (2 : Int32)), (.int p5)])) t
      refine XS.icmpNo X0.here hx rfl (hb hby d3_39) rfl (teq (hc4)).2 ?_
      show Steps p.tables e below (s₁.setTop (mkF m 42 #[.val (.int p0), .val (.int p1), .val (.int p2), .val (.int p3), .val (.int p4), .val (.int p5), .val (.int (v3_36_6 p0 p1 p2 p3 p4 p5))] [])) t
      exact k
    refine OEnd.go (T' := s₁) (g' := (mkF m 46 #[.val (.int p0), .val (.int p1), .val (.int p2), .val (.int p3), .val (.int p4), .val (.int p5), .val (.int (v3_36_6 p0 p1 p2 p3 p4 p5))] [(.int ((v3_36_6 p0 p1 p2 p3 p4 p5) + (1 : Int32)))])) (fun t k => ?_) ?_
    · show Steps p.tables e below (s₁.setTop (mkF m 42 #[.val (.int p0), .val (.int p1), .val (.int p2), .val (.int p3), .val (.int p4), .val (.int p5), .val (.int (v3_36_6 p0 p1 p2 p3 p4 p5))] [])) t
      refine XS.iload X0.here hx rfl (hb hby d3_42) rfl ?_
      show Steps p.tables e below (s₁.setTop (mkF m 44 #[.val (.int p0), .val (.int p1), .val (.int p2), .val (.int p3), .val (.int p4), .val (.int p5), .val (.int (v3_36_6 p0 p1 p2 p3 p4 p5))] [(.int (v3_36_6 p0 p1 p2 p3 p4 p5))])) t
      refine XS.iconst X0.here hx rfl (hb hby d3_44) ?_
      show Steps p.tables e below (s₁.setTop (mkF m 45 #[.val (.int p0), .val (.int p1), .val (.int p2), .val (.int p3), .val (.int p4), .val (.int p5), .val (.int (v3_36_6 p0 p1 p2 p3 p4 p5))] [(.int (1 : Int32)), (.int (v3_36_6 p0 p1 p2 p3 p4 p5))])) t
      refine XS.iadd X0.here hx rfl (hb hby d3_45) rfl ?_
      show Steps p.tables e below (s₁.setTop (mkF m 46 #[.val (.int p0), .val (.int p1), .val (.int p2), .val (.int p3), .val (.int p4), .val (.int p5), .val (.int (v3_36_6 p0 p1 p2 p3 p4 p5))] [(.int ((v3_36_6 p0 p1 p2 p3 p4 p5) + (1 : Int32)))])) t
      exact k
    exact OEnd.int X0 hx Bd.returns hlk (hb hby d3_46) ⟨(congrArg (fun z => some (Value.int z)) (own_symm (if_pos hc4))), N0, e0⟩ (by decide) (by decide)
  · skip
    refine OEnd.go (T' := s₁) (g' := (mkF m 47 #[.val (.int p0), .val (.int p1), .val (.int p2), .val (.int p3), .val (.int p4), .val (.int p5), .val (.int (v3_36_6 p0 p1 p2 p3 p4 p5))] [])) (fun t k => ?_) ?_
    · show Steps p.tables e below (s₁.setTop (mkF m 39 #[.val (.int p0), .val (.int p1), .val (.int p2), .val (.int p3), .val (.int p4), .val (.int p5), .val (.int (v3_36_6 p0 p1 p2 p3 p4 p5))] [(.int (2 : Int32)), (.int p5)])) t
      refine XS.icmpYes X0.here hx rfl (pc0 := 39) (pc' := 47) rfl (hb hby d3_39) rfl (feq (hc4)).2 (by decide) (by decide) ?_
      show Steps p.tables e below (s₁.setTop (mkF m 47 #[.val (.int p0), .val (.int p1), .val (.int p2), .val (.int p3), .val (.int p4), .val (.int p5), .val (.int (v3_36_6 p0 p1 p2 p3 p4 p5))] [])) t
      exact k
    refine OEnd.go (T' := s₁) (g' := (mkF m 50 #[.val (.int p0), .val (.int p1), .val (.int p2), .val (.int p3), .val (.int p4), .val (.int p5), .val (.int (v3_36_6 p0 p1 p2 p3 p4 p5))] [(.int (3 : Int32)), (.int p5)])) (fun t k => ?_) ?_
    · show Steps p.tables e below (s₁.setTop (mkF m 47 #[.val (.int p0), .val (.int p1), .val (.int p2), .val (.int p3), .val (.int p4), .val (.int p5), .val (.int (v3_36_6 p0 p1 p2 p3 p4 p5))] [])) t
      refine XS.iload X0.here hx rfl (hb hby d3_47) rfl ?_
      show Steps p.tables e below (s₁.setTop (mkF m 49 #[.val (.int p0), .val (.int p1), .val (.int p2), .val (.int p3), .val (.int p4), .val (.int p5), .val (.int (v3_36_6 p0 p1 p2 p3 p4 p5))] [(.int p5)])) t
      refine XS.iconst X0.here hx rfl (hb hby d3_49) ?_
      show Steps p.tables e below (s₁.setTop (mkF m 50 #[.val (.int p0), .val (.int p1), .val (.int p2), .val (.int p3), .val (.int p4), .val (.int p5), .val (.int (v3_36_6 p0 p1 p2 p3 p4 p5))] [(.int (3 : Int32)), (.int p5)])) t
      exact k
    by_cases hc5 : p5 = (3 : Int32)
    · skip
      refine OEnd.go (T' := s₁) (g' := (mkF m 53 #[.val (.int p0), .val (.int p1), .val (.int p2), .val (.int p3), .val (.int p4), .val (.int p5), .val (.int (v3_36_6 p0 p1 p2 p3 p4 p5))] [])) (fun t k => ?_) ?_
      · show Steps p.tables e below (s₁.setTop (mkF m 50 #[.val (.int p0), .val (.int p1), .val (.int p2), .val (.int p3), .val (.int p4), .val (.int p5), .val (.int (v3_36_6 p0 p1 p2 p3 p4 p5))] [(.int (3 : Int32)), (.int p5)])) t
        refine XS.icmpNo X0.here hx rfl (hb hby d3_50) rfl (teq (hc5)).2 ?_
        show Steps p.tables e below (s₁.setTop (mkF m 53 #[.val (.int p0), .val (.int p1), .val (.int p2), .val (.int p3), .val (.int p4), .val (.int p5), .val (.int (v3_36_6 p0 p1 p2 p3 p4 p5))] [])) t
        exact k
      refine OEnd.go (T' := s₁) (g' := (mkF m 57 #[.val (.int p0), .val (.int p1), .val (.int p2), .val (.int p3), .val (.int p4), .val (.int p5), .val (.int (v3_36_6 p0 p1 p2 p3 p4 p5))] [(.int ((v3_36_6 p0 p1 p2 p3 p4 p5) - (1 : Int32)))])) (fun t k => ?_) ?_
      · show Steps p.tables e below (s₁.setTop (mkF m 53 #[.val (.int p0), .val (.int p1), .val (.int p2), .val (.int p3), .val (.int p4), .val (.int p5), .val (.int (v3_36_6 p0 p1 p2 p3 p4 p5))] [])) t
        refine XS.iload X0.here hx rfl (hb hby d3_53) rfl ?_
        show Steps p.tables e below (s₁.setTop (mkF m 55 #[.val (.int p0), .val (.int p1), .val (.int p2), .val (.int p3), .val (.int p4), .val (.int p5), .val (.int (v3_36_6 p0 p1 p2 p3 p4 p5))] [(.int (v3_36_6 p0 p1 p2 p3 p4 p5))])) t
        refine XS.iconst X0.here hx rfl (hb hby d3_55) ?_
        show Steps p.tables e below (s₁.setTop (mkF m 56 #[.val (.int p0), .val (.int p1), .val (.int p2), .val (.int p3), .val (.int p4), .val (.int p5), .val (.int (v3_36_6 p0 p1 p2 p3 p4 p5))] [(.int (1 : Int32)), (.int (v3_36_6 p0 p1 p2 p3 p4 p5))])) t
        refine XS.isub X0.here hx rfl (hb hby d3_56) rfl ?_
        show Steps p.tables e below (s₁.setTop (mkF m 57 #[.val (.int p0), .val (.int p1), .val (.int p2), .val (.int p3), .val (.int p4), .val (.int p5), .val (.int (v3_36_6 p0 p1 p2 p3 p4 p5))] [(.int ((v3_36_6 p0 p1 p2 p3 p4 p5) - (1 : Int32)))])) t
        exact k
      exact OEnd.int X0 hx Bd.returns hlk (hb hby d3_57) ⟨(congrArg (fun z => some (Value.int z)) (own_symm ((if_neg hc4).trans (if_pos hc5)))), N0, e0⟩ (by decide) (by decide)
    · skip
      refine OEnd.go (T' := s₁) (g' := (mkF m 58 #[.val (.int p0), .val (.int p1), .val (.int p2), .val (.int p3), .val (.int p4), .val (.int p5), .val (.int (v3_36_6 p0 p1 p2 p3 p4 p5))] [])) (fun t k => ?_) ?_
      · show Steps p.tables e below (s₁.setTop (mkF m 50 #[.val (.int p0), .val (.int p1), .val (.int p2), .val (.int p3), .val (.int p4), .val (.int p5), .val (.int (v3_36_6 p0 p1 p2 p3 p4 p5))] [(.int (3 : Int32)), (.int p5)])) t
        refine XS.icmpYes X0.here hx rfl (pc0 := 50) (pc' := 58) rfl (hb hby d3_50) rfl (feq (hc5)).2 (by decide) (by decide) ?_
        show Steps p.tables e below (s₁.setTop (mkF m 58 #[.val (.int p0), .val (.int p1), .val (.int p2), .val (.int p3), .val (.int p4), .val (.int p5), .val (.int (v3_36_6 p0 p1 p2 p3 p4 p5))] [])) t
        exact k
      refine OEnd.go (T' := s₁) (g' := (mkF m 60 #[.val (.int p0), .val (.int p1), .val (.int p2), .val (.int p3), .val (.int p4), .val (.int p5), .val (.int (v3_36_6 p0 p1 p2 p3 p4 p5))] [(.int (v3_36_6 p0 p1 p2 p3 p4 p5))])) (fun t k => ?_) ?_
      · show Steps p.tables e below (s₁.setTop (mkF m 58 #[.val (.int p0), .val (.int p1), .val (.int p2), .val (.int p3), .val (.int p4), .val (.int p5), .val (.int (v3_36_6 p0 p1 p2 p3 p4 p5))] [])) t
        refine XS.iload X0.here hx rfl (hb hby d3_58) rfl ?_
        show Steps p.tables e below (s₁.setTop (mkF m 60 #[.val (.int p0), .val (.int p1), .val (.int p2), .val (.int p3), .val (.int p4), .val (.int p5), .val (.int (v3_36_6 p0 p1 p2 p3 p4 p5))] [(.int (v3_36_6 p0 p1 p2 p3 p4 p5))])) t
        exact k
      exact OEnd.int X0 hx Bd.returns hlk (hb hby d3_60) ⟨(congrArg (fun z => some (Value.int z)) (own_symm ((if_neg hc4).trans (if_neg hc5)))), N0, e0⟩ (by decide) (by decide)
theorem d5_0 : decode method_4_code 0 = .ok (.iload_n 1, 1) := by decide +kernel
theorem d5_1 : decode method_4_code 1 = .ok (.ifCond .le 8, 3) := by decide +kernel
theorem d5_4 : decode method_4_code 4 = .ok (.iload_n 2, 1) := by decide +kernel
theorem d5_5 : decode method_4_code 5 = .ok (.iload_n 0, 1) := by decide +kernel
theorem d5_6 : decode method_4_code 6 = .ok (.if_icmp .eq 24, 3) := by decide +kernel
theorem d5_30 : decode method_4_code 30 = .ok (.iconst 1, 1) := by decide +kernel
theorem d5_31 : decode method_4_code 31 = .ok (.goto 4, 3) := by decide +kernel
theorem d5_9 : decode method_4_code 9 = .ok (.iload_n 1, 1) := by decide +kernel
theorem d5_10 : decode method_4_code 10 = .ok (.iconst 1, 1) := by decide +kernel
theorem d5_11 : decode method_4_code 11 = .ok (.if_icmp .le 8, 3) := by decide +kernel
theorem d5_14 : decode method_4_code 14 = .ok (.iload_n 3, 1) := by decide +kernel
theorem d5_15 : decode method_4_code 15 = .ok (.iload_n 0, 1) := by decide +kernel
theorem d5_16 : decode method_4_code 16 = .ok (.if_icmp .eq 14, 3) := by decide +kernel
theorem d5_19 : decode method_4_code 19 = .ok (.iload_n 1, 1) := by decide +kernel
theorem d5_20 : decode method_4_code 20 = .ok (.iconst 2, 1) := by decide +kernel
theorem d5_21 : decode method_4_code 21 = .ok (.if_icmp .le 13, 3) := by decide +kernel
theorem d5_24 : decode method_4_code 24 = .ok (.iload 4, 2) := by decide +kernel
theorem d5_26 : decode method_4_code 26 = .ok (.iload_n 0, 1) := by decide +kernel
theorem d5_27 : decode method_4_code 27 = .ok (.if_icmp .ne 7, 3) := by decide +kernel
theorem d5_34 : decode method_4_code 34 = .ok (.iconst 0, 1) := by decide +kernel
theorem d5_35 : decode method_4_code 35 = .ok (.ireturn, 1) := by decide +kernel
def f5 (p0 : Int32) (p1 : Int32) (p2 : Int32) (p3 : Int32) (p4 : Int32) : Int32 := nar .boolean (if (0 : Int32) < p1 then (if p2 = p0 then (1 : Int32) else (if (1 : Int32) < p1 then (if p3 = p0 then (1 : Int32) else (if (2 : Int32) < p1 then (if p4 = p0 then (1 : Int32) else (0 : Int32)) else (0 : Int32))) else (if (2 : Int32) < p1 then (if p4 = p0 then (1 : Int32) else (0 : Int32)) else (0 : Int32)))) else (if (1 : Int32) < p1 then (if p3 = p0 then (1 : Int32) else (if (2 : Int32) < p1 then (if p4 = p0 then (1 : Int32) else (0 : Int32)) else (0 : Int32))) else (if (2 : Int32) < p1 then (if p4 = p0 then (1 : Int32) else (0 : Int32)) else (0 : Int32))))
theorem ef_5 (m : MethodId) (x0 : Int32) (x1 : Int32) (x2 : Int32) (x3 : Int32) (x4 : Int32) : entryFrame m #[(.int x0), (.int x1), (.int x2), (.int x3), (.int x4)] 5 = mkF m 0 #[.val (.int x0), .val (.int x1), .val (.int x2), .val (.int x3), .val (.int x4)] [] := by first | (simp [entryFrame, mkF, argsToLocals, Value.category]; done) | rfl
def Q5 (Z : State) (p0 : Int32) (p1 : Int32) (p2 : Int32) (p3 : Int32) (p4 : Int32) (h0 : Heap) (n0 : Nat) (v : Option Value) (h : Heap) (L : List Loc) : Prop := v = some (.int (f5 p0 p1 p2 p3 p4)) ∧ Fr n0 L ∧ h = h0
set_option maxRecDepth 65536 in
set_option maxHeartbeats 40000000 in
theorem rm5 (l : Launch) (Z : State) (aZ : Array Value) (hw : ∀ d ∈ tables_1, d.before aZ Z = true) (ws : List Jvm.Cond) (p0 : Int32) (p1 : Int32) (p2 : Int32) (p3 : Int32) (p4 : Int32) (h0 : Heap) (n0 : Nat) (Z0 : n0 ≤ h0.size) :
    MetFree l (⟨"com/example/nuthatch/nuthatch/logic/DemandsWithinPinLaw", "member", "(IIIII)Z"⟩ : MethodName) (head1 (Jvm.Cond.code (⟨"com/example/nuthatch/nuthatch/logic/DemandsWithinPinLaw", "member", "(IIIII)Z"⟩ : MethodName) method_4_code 5 (some .boolean) :: ws) ({ frames := 0, cells := 0, slots := 0, locals := 0 } : Room)) (fun a U => a = #[(.int p0), (.int p1), (.int p2), (.int p3), (.int p4)] ∧ Z.Warmed39 U.vm ∧ U.heap = h0) (fun _ _ _ _ _ => True) (fun _ U o U' => ∃ v L, o = .returned v ∧ Q5 Z p0 p1 p2 p3 p4 h0 n0 v U'.heap L ∧ FrameEnd U o U' L ({ frames := 0, cells := 0, slots := 0, locals := 0 } : Room).cells ({ frames := 0, cells := 0, slots := 0, locals := 0 } : Room).slots) := by
  refine MetFree.of_bodySF (plainFor_of_name pn_com_example_nuthatch_nuthatch_logic_DemandsWithinPinLaw) hisR ?_
  intro p e s m args below meth c s₁ Bd hml0 hP hK
  obtain ⟨rfl, hZ, hh⟩ := hP
  have hx := Bd.exec
  have hby := Bd.bytes
  have hlk : meth.locks = false := BodyLoose.notSynchronized Bd
  have hml : c.maxLocals = 5 := hml0
  have hown : s.vm.findClass "com/example/nuthatch/nuthatch/logic/DemandsWithinPinLaw" = some m.cls := findClass_of_methodNamed Bd.named
  have hnm := (name_of_methodNamed Bd.named Bd.method).1
  have X0 : Stand p l e ({ frames := 0, cells := 0, slots := 0, locals := 0 } : Room) s m #[(.int p0), (.int p1), (.int p2), (.int p3), (.int p4)] below meth c s₁ [] 0 0 := Stand.of_body Bd
  have e0 : s₁.heap = h0 := by rw [← hh, Bd.state]; rfl
  have N0 := Fr.nil n0
  show OEnd p e below s s₁ (entryFrame m #[(.int p0), (.int p1), (.int p2), (.int p3), (.int p4)] 5) (Q5 Z p0 p1 p2 p3 p4 h0 n0) ({ frames := 0, cells := 0, slots := 0, locals := 0 } : Room).cells ({ frames := 0, cells := 0, slots := 0, locals := 0 } : Room).slots
  refine OEnd.go (g' := (mkF m 0 #[.val (.int p0), .val (.int p1), .val (.int p2), .val (.int p3), .val (.int p4)] [])) (fun _ k => castTop (ef_5 m p0 p1 p2 p3 p4) k) ?_
  refine OEnd.go (T' := s₁) (g' := (mkF m 1 #[.val (.int p0), .val (.int p1), .val (.int p2), .val (.int p3), .val (.int p4)] [(.int p1)])) (fun t k => ?_) ?_
  · show Steps p.tables e below (s₁.setTop (mkF m 0 #[.val (.int p0), .val (.int p1), .val (.int p2), .val (.int p3), .val (.int p4)] [])) t
    refine XS.iloadN X0.here hx rfl (hb hby d5_0) rfl ?_
    show Steps p.tables e below (s₁.setTop (mkF m 1 #[.val (.int p0), .val (.int p1), .val (.int p2), .val (.int p3), .val (.int p4)] [(.int p1)])) t
    exact k
  refine OEnd.go (T' := s₁) (g' := (mkF m 35 #[.val (.int p0), .val (.int p1), .val (.int p2), .val (.int p3), .val (.int p4)] [(.int (if (0 : Int32) < p1 then (if p2 = p0 then (1 : Int32) else (if (1 : Int32) < p1 then (if p3 = p0 then (1 : Int32) else (if (2 : Int32) < p1 then (if p4 = p0 then (1 : Int32) else (0 : Int32)) else (0 : Int32))) else (if (2 : Int32) < p1 then (if p4 = p0 then (1 : Int32) else (0 : Int32)) else (0 : Int32)))) else (if (1 : Int32) < p1 then (if p3 = p0 then (1 : Int32) else (if (2 : Int32) < p1 then (if p4 = p0 then (1 : Int32) else (0 : Int32)) else (0 : Int32))) else (if (2 : Int32) < p1 then (if p4 = p0 then (1 : Int32) else (0 : Int32)) else (0 : Int32)))))])) (fun t k => ?_) ?_
  · show Steps p.tables e below (s₁.setTop (mkF m 1 #[.val (.int p0), .val (.int p1), .val (.int p2), .val (.int p3), .val (.int p4)] [(.int p1)])) t
    by_cases hc1 : (0 : Int32) < p1
    · skip
      refine XS.ifNo X0.here hx rfl (hb hby d5_1) rfl ((if0 _ _).trans (tlt (hc1)).2.2.2) ?_
      show Steps p.tables e below (s₁.setTop (mkF m 4 #[.val (.int p0), .val (.int p1), .val (.int p2), .val (.int p3), .val (.int p4)] [])) t
      refine SGo.go (T' := s₁) (g' := (mkF m 6 #[.val (.int p0), .val (.int p1), .val (.int p2), .val (.int p3), .val (.int p4)] [(.int p0), (.int p2)])) (fun t k => ?_) ?_
      · show Steps p.tables e below (s₁.setTop (mkF m 4 #[.val (.int p0), .val (.int p1), .val (.int p2), .val (.int p3), .val (.int p4)] [])) t
        refine XS.iloadN X0.here hx rfl (hb hby d5_4) rfl ?_
        show Steps p.tables e below (s₁.setTop (mkF m 5 #[.val (.int p0), .val (.int p1), .val (.int p2), .val (.int p3), .val (.int p4)] [(.int p2)])) t
        refine XS.iloadN X0.here hx rfl (hb hby d5_5) rfl ?_
        show Steps p.tables e below (s₁.setTop (mkF m 6 #[.val (.int p0), .val (.int p1), .val (.int p2), .val (.int p3), .val (.int p4)] [(.int p0), (.int p2)])) t
        exact k
      by_cases hc2 : p2 = p0
      · skip
        refine XS.icmpYes X0.here hx rfl (pc0 := 6) (pc' := 30) rfl (hb hby d5_6) rfl (teq (hc2)).1 (by decide) (by decide) ?_
        show Steps p.tables e below (s₁.setTop (mkF m 30 #[.val (.int p0), .val (.int p1), .val (.int p2), .val (.int p3), .val (.int p4)] [])) t
        refine SGo.go (T' := s₁) (g' := (mkF m 35 #[.val (.int p0), .val (.int p1), .val (.int p2), .val (.int p3), .val (.int p4)] [(.int (1 : Int32))])) (fun t k => ?_) ?_
        · show Steps p.tables e below (s₁.setTop (mkF m 30 #[.val (.int p0), .val (.int p1), .val (.int p2), .val (.int p3), .val (.int p4)] [])) t
          refine XS.iconst X0.here hx rfl (hb hby d5_30) ?_
          show Steps p.tables e below (s₁.setTop (mkF m 31 #[.val (.int p0), .val (.int p1), .val (.int p2), .val (.int p3), .val (.int p4)] [(.int (1 : Int32))])) t
          refine XS.goto X0.here hx rfl (pc0 := 31) (pc' := 35) rfl (hb hby d5_31) (by decide) (by decide) ?_
          show Steps p.tables e below (s₁.setTop (mkF m 35 #[.val (.int p0), .val (.int p1), .val (.int p2), .val (.int p3), .val (.int p4)] [(.int (1 : Int32))])) t
          exact k
        exact (own_k (f := fun (z : Int32) => mkF m 35 #[.val (.int p0), .val (.int p1), .val (.int p2), .val (.int p3), .val (.int p4)] [(.int z)]) ((if_pos hc1).trans (if_pos hc2)) k)
      · skip
        refine XS.icmpNo X0.here hx rfl (hb hby d5_6) rfl (feq (hc2)).1 ?_
        show Steps p.tables e below (s₁.setTop (mkF m 9 #[.val (.int p0), .val (.int p1), .val (.int p2), .val (.int p3), .val (.int p4)] [])) t
        refine SGo.go (T' := s₁) (g' := (mkF m 11 #[.val (.int p0), .val (.int p1), .val (.int p2), .val (.int p3), .val (.int p4)] [(.int (1 : Int32)), (.int p1)])) (fun t k => ?_) ?_
        · show Steps p.tables e below (s₁.setTop (mkF m 9 #[.val (.int p0), .val (.int p1), .val (.int p2), .val (.int p3), .val (.int p4)] [])) t
          refine XS.iloadN X0.here hx rfl (hb hby d5_9) rfl ?_
          show Steps p.tables e below (s₁.setTop (mkF m 10 #[.val (.int p0), .val (.int p1), .val (.int p2), .val (.int p3), .val (.int p4)] [(.int p1)])) t
          refine XS.iconst X0.here hx rfl (hb hby d5_10) ?_
          show Steps p.tables e below (s₁.setTop (mkF m 11 #[.val (.int p0), .val (.int p1), .val (.int p2), .val (.int p3), .val (.int p4)] [(.int (1 : Int32)), (.int p1)])) t
          exact k
        by_cases hc3 : (1 : Int32) < p1
        · skip
          refine XS.icmpNo X0.here hx rfl (hb hby d5_11) rfl (tlt (hc3)).2.2.2 ?_
          show Steps p.tables e below (s₁.setTop (mkF m 14 #[.val (.int p0), .val (.int p1), .val (.int p2), .val (.int p3), .val (.int p4)] [])) t
          refine SGo.go (T' := s₁) (g' := (mkF m 16 #[.val (.int p0), .val (.int p1), .val (.int p2), .val (.int p3), .val (.int p4)] [(.int p0), (.int p3)])) (fun t k => ?_) ?_
          · show Steps p.tables e below (s₁.setTop (mkF m 14 #[.val (.int p0), .val (.int p1), .val (.int p2), .val (.int p3), .val (.int p4)] [])) t
            refine XS.iloadN X0.here hx rfl (hb hby d5_14) rfl ?_
            show Steps p.tables e below (s₁.setTop (mkF m 15 #[.val (.int p0), .val (.int p1), .val (.int p2), .val (.int p3), .val (.int p4)] [(.int p3)])) t
            refine XS.iloadN X0.here hx rfl (hb hby d5_15) rfl ?_
            show Steps p.tables e below (s₁.setTop (mkF m 16 #[.val (.int p0), .val (.int p1), .val (.int p2), .val (.int p3), .val (.int p4)] [(.int p0), (.int p3)])) t
            exact k
          by_cases hc4 : p3 = p0
          · skip
            refine XS.icmpYes X0.here hx rfl (pc0 := 16) (pc' := 30) rfl (hb hby d5_16) rfl (teq (hc4)).1 (by decide) (by decide) ?_
            show Steps p.tables e below (s₁.setTop (mkF m 30 #[.val (.int p0), .val (.int p1), .val (.int p2), .val (.int p3), .val (.int p4)] [])) t
            refine SGo.go (T' := s₁) (g' := (mkF m 35 #[.val (.int p0), .val (.int p1), .val (.int p2), .val (.int p3), .val (.int p4)] [(.int (1 : Int32))])) (fun t k => ?_) ?_
            · show Steps p.tables e below (s₁.setTop (mkF m 30 #[.val (.int p0), .val (.int p1), .val (.int p2), .val (.int p3), .val (.int p4)] [])) t
              refine XS.iconst X0.here hx rfl (hb hby d5_30) ?_
              show Steps p.tables e below (s₁.setTop (mkF m 31 #[.val (.int p0), .val (.int p1), .val (.int p2), .val (.int p3), .val (.int p4)] [(.int (1 : Int32))])) t
              refine XS.goto X0.here hx rfl (pc0 := 31) (pc' := 35) rfl (hb hby d5_31) (by decide) (by decide) ?_
              show Steps p.tables e below (s₁.setTop (mkF m 35 #[.val (.int p0), .val (.int p1), .val (.int p2), .val (.int p3), .val (.int p4)] [(.int (1 : Int32))])) t
              exact k
            exact (own_k (f := fun (z : Int32) => mkF m 35 #[.val (.int p0), .val (.int p1), .val (.int p2), .val (.int p3), .val (.int p4)] [(.int z)]) ((if_pos hc1).trans ((if_neg hc2).trans ((if_pos hc3).trans (if_pos hc4)))) k)
          · skip
            refine XS.icmpNo X0.here hx rfl (hb hby d5_16) rfl (feq (hc4)).1 ?_
            show Steps p.tables e below (s₁.setTop (mkF m 19 #[.val (.int p0), .val (.int p1), .val (.int p2), .val (.int p3), .val (.int p4)] [])) t
            refine SGo.go (T' := s₁) (g' := (mkF m 21 #[.val (.int p0), .val (.int p1), .val (.int p2), .val (.int p3), .val (.int p4)] [(.int (2 : Int32)), (.int p1)])) (fun t k => ?_) ?_
            · show Steps p.tables e below (s₁.setTop (mkF m 19 #[.val (.int p0), .val (.int p1), .val (.int p2), .val (.int p3), .val (.int p4)] [])) t
              refine XS.iloadN X0.here hx rfl (hb hby d5_19) rfl ?_
              show Steps p.tables e below (s₁.setTop (mkF m 20 #[.val (.int p0), .val (.int p1), .val (.int p2), .val (.int p3), .val (.int p4)] [(.int p1)])) t
              refine XS.iconst X0.here hx rfl (hb hby d5_20) ?_
              show Steps p.tables e below (s₁.setTop (mkF m 21 #[.val (.int p0), .val (.int p1), .val (.int p2), .val (.int p3), .val (.int p4)] [(.int (2 : Int32)), (.int p1)])) t
              exact k
            by_cases hc5 : (2 : Int32) < p1
            · skip
              refine XS.icmpNo X0.here hx rfl (hb hby d5_21) rfl (tlt (hc5)).2.2.2 ?_
              show Steps p.tables e below (s₁.setTop (mkF m 24 #[.val (.int p0), .val (.int p1), .val (.int p2), .val (.int p3), .val (.int p4)] [])) t
              refine SGo.go (T' := s₁) (g' := (mkF m 27 #[.val (.int p0), .val (.int p1), .val (.int p2), .val (.int p3), .val (.int p4)] [(.int p0), (.int p4)])) (fun t k => ?_) ?_
              · show Steps p.tables e below (s₁.setTop (mkF m 24 #[.val (.int p0), .val (.int p1), .val (.int p2), .val (.int p3), .val (.int p4)] [])) t
                refine XS.iload X0.here hx rfl (hb hby d5_24) rfl ?_
                show Steps p.tables e below (s₁.setTop (mkF m 26 #[.val (.int p0), .val (.int p1), .val (.int p2), .val (.int p3), .val (.int p4)] [(.int p4)])) t
                refine XS.iloadN X0.here hx rfl (hb hby d5_26) rfl ?_
                show Steps p.tables e below (s₁.setTop (mkF m 27 #[.val (.int p0), .val (.int p1), .val (.int p2), .val (.int p3), .val (.int p4)] [(.int p0), (.int p4)])) t
                exact k
              by_cases hc6 : p4 = p0
              · skip
                refine XS.icmpNo X0.here hx rfl (hb hby d5_27) rfl (teq (hc6)).2 ?_
                show Steps p.tables e below (s₁.setTop (mkF m 30 #[.val (.int p0), .val (.int p1), .val (.int p2), .val (.int p3), .val (.int p4)] [])) t
                refine SGo.go (T' := s₁) (g' := (mkF m 35 #[.val (.int p0), .val (.int p1), .val (.int p2), .val (.int p3), .val (.int p4)] [(.int (1 : Int32))])) (fun t k => ?_) ?_
                · show Steps p.tables e below (s₁.setTop (mkF m 30 #[.val (.int p0), .val (.int p1), .val (.int p2), .val (.int p3), .val (.int p4)] [])) t
                  refine XS.iconst X0.here hx rfl (hb hby d5_30) ?_
                  show Steps p.tables e below (s₁.setTop (mkF m 31 #[.val (.int p0), .val (.int p1), .val (.int p2), .val (.int p3), .val (.int p4)] [(.int (1 : Int32))])) t
                  refine XS.goto X0.here hx rfl (pc0 := 31) (pc' := 35) rfl (hb hby d5_31) (by decide) (by decide) ?_
                  show Steps p.tables e below (s₁.setTop (mkF m 35 #[.val (.int p0), .val (.int p1), .val (.int p2), .val (.int p3), .val (.int p4)] [(.int (1 : Int32))])) t
                  exact k
                exact (own_k (f := fun (z : Int32) => mkF m 35 #[.val (.int p0), .val (.int p1), .val (.int p2), .val (.int p3), .val (.int p4)] [(.int z)]) ((if_pos hc1).trans ((if_neg hc2).trans ((if_pos hc3).trans ((if_neg hc4).trans ((if_pos hc5).trans (if_pos hc6)))))) k)
              · skip
                refine XS.icmpYes X0.here hx rfl (pc0 := 27) (pc' := 34) rfl (hb hby d5_27) rfl (feq (hc6)).2 (by decide) (by decide) ?_
                show Steps p.tables e below (s₁.setTop (mkF m 34 #[.val (.int p0), .val (.int p1), .val (.int p2), .val (.int p3), .val (.int p4)] [])) t
                refine SGo.go (T' := s₁) (g' := (mkF m 35 #[.val (.int p0), .val (.int p1), .val (.int p2), .val (.int p3), .val (.int p4)] [(.int (0 : Int32))])) (fun t k => ?_) ?_
                · show Steps p.tables e below (s₁.setTop (mkF m 34 #[.val (.int p0), .val (.int p1), .val (.int p2), .val (.int p3), .val (.int p4)] [])) t
                  refine XS.iconst X0.here hx rfl (hb hby d5_34) ?_
                  show Steps p.tables e below (s₁.setTop (mkF m 35 #[.val (.int p0), .val (.int p1), .val (.int p2), .val (.int p3), .val (.int p4)] [(.int (0 : Int32))])) t
                  exact k
                exact (own_k (f := fun (z : Int32) => mkF m 35 #[.val (.int p0), .val (.int p1), .val (.int p2), .val (.int p3), .val (.int p4)] [(.int z)]) ((if_pos hc1).trans ((if_neg hc2).trans ((if_pos hc3).trans ((if_neg hc4).trans ((if_pos hc5).trans (if_neg hc6)))))) k)
            · skip
              refine XS.icmpYes X0.here hx rfl (pc0 := 21) (pc' := 34) rfl (hb hby d5_21) rfl (flt (hc5)).2.2.2 (by decide) (by decide) ?_
              show Steps p.tables e below (s₁.setTop (mkF m 34 #[.val (.int p0), .val (.int p1), .val (.int p2), .val (.int p3), .val (.int p4)] [])) t
              refine SGo.go (T' := s₁) (g' := (mkF m 35 #[.val (.int p0), .val (.int p1), .val (.int p2), .val (.int p3), .val (.int p4)] [(.int (0 : Int32))])) (fun t k => ?_) ?_
              · show Steps p.tables e below (s₁.setTop (mkF m 34 #[.val (.int p0), .val (.int p1), .val (.int p2), .val (.int p3), .val (.int p4)] [])) t
                refine XS.iconst X0.here hx rfl (hb hby d5_34) ?_
                show Steps p.tables e below (s₁.setTop (mkF m 35 #[.val (.int p0), .val (.int p1), .val (.int p2), .val (.int p3), .val (.int p4)] [(.int (0 : Int32))])) t
                exact k
              exact (own_k (f := fun (z : Int32) => mkF m 35 #[.val (.int p0), .val (.int p1), .val (.int p2), .val (.int p3), .val (.int p4)] [(.int z)]) ((if_pos hc1).trans ((if_neg hc2).trans ((if_pos hc3).trans ((if_neg hc4).trans (if_neg hc5))))) k)
        · skip
          refine XS.icmpYes X0.here hx rfl (pc0 := 11) (pc' := 19) rfl (hb hby d5_11) rfl (flt (hc3)).2.2.2 (by decide) (by decide) ?_
          show Steps p.tables e below (s₁.setTop (mkF m 19 #[.val (.int p0), .val (.int p1), .val (.int p2), .val (.int p3), .val (.int p4)] [])) t
          refine SGo.go (T' := s₁) (g' := (mkF m 21 #[.val (.int p0), .val (.int p1), .val (.int p2), .val (.int p3), .val (.int p4)] [(.int (2 : Int32)), (.int p1)])) (fun t k => ?_) ?_
          · show Steps p.tables e below (s₁.setTop (mkF m 19 #[.val (.int p0), .val (.int p1), .val (.int p2), .val (.int p3), .val (.int p4)] [])) t
            refine XS.iloadN X0.here hx rfl (hb hby d5_19) rfl ?_
            show Steps p.tables e below (s₁.setTop (mkF m 20 #[.val (.int p0), .val (.int p1), .val (.int p2), .val (.int p3), .val (.int p4)] [(.int p1)])) t
            refine XS.iconst X0.here hx rfl (hb hby d5_20) ?_
            show Steps p.tables e below (s₁.setTop (mkF m 21 #[.val (.int p0), .val (.int p1), .val (.int p2), .val (.int p3), .val (.int p4)] [(.int (2 : Int32)), (.int p1)])) t
            exact k
          by_cases hc7 : (2 : Int32) < p1
          · skip
            refine XS.icmpNo X0.here hx rfl (hb hby d5_21) rfl (tlt (hc7)).2.2.2 ?_
            show Steps p.tables e below (s₁.setTop (mkF m 24 #[.val (.int p0), .val (.int p1), .val (.int p2), .val (.int p3), .val (.int p4)] [])) t
            refine SGo.go (T' := s₁) (g' := (mkF m 27 #[.val (.int p0), .val (.int p1), .val (.int p2), .val (.int p3), .val (.int p4)] [(.int p0), (.int p4)])) (fun t k => ?_) ?_
            · show Steps p.tables e below (s₁.setTop (mkF m 24 #[.val (.int p0), .val (.int p1), .val (.int p2), .val (.int p3), .val (.int p4)] [])) t
              refine XS.iload X0.here hx rfl (hb hby d5_24) rfl ?_
              show Steps p.tables e below (s₁.setTop (mkF m 26 #[.val (.int p0), .val (.int p1), .val (.int p2), .val (.int p3), .val (.int p4)] [(.int p4)])) t
              refine XS.iloadN X0.here hx rfl (hb hby d5_26) rfl ?_
              show Steps p.tables e below (s₁.setTop (mkF m 27 #[.val (.int p0), .val (.int p1), .val (.int p2), .val (.int p3), .val (.int p4)] [(.int p0), (.int p4)])) t
              exact k
            by_cases hc8 : p4 = p0
            · skip
              refine XS.icmpNo X0.here hx rfl (hb hby d5_27) rfl (teq (hc8)).2 ?_
              show Steps p.tables e below (s₁.setTop (mkF m 30 #[.val (.int p0), .val (.int p1), .val (.int p2), .val (.int p3), .val (.int p4)] [])) t
              refine SGo.go (T' := s₁) (g' := (mkF m 35 #[.val (.int p0), .val (.int p1), .val (.int p2), .val (.int p3), .val (.int p4)] [(.int (1 : Int32))])) (fun t k => ?_) ?_
              · show Steps p.tables e below (s₁.setTop (mkF m 30 #[.val (.int p0), .val (.int p1), .val (.int p2), .val (.int p3), .val (.int p4)] [])) t
                refine XS.iconst X0.here hx rfl (hb hby d5_30) ?_
                show Steps p.tables e below (s₁.setTop (mkF m 31 #[.val (.int p0), .val (.int p1), .val (.int p2), .val (.int p3), .val (.int p4)] [(.int (1 : Int32))])) t
                refine XS.goto X0.here hx rfl (pc0 := 31) (pc' := 35) rfl (hb hby d5_31) (by decide) (by decide) ?_
                show Steps p.tables e below (s₁.setTop (mkF m 35 #[.val (.int p0), .val (.int p1), .val (.int p2), .val (.int p3), .val (.int p4)] [(.int (1 : Int32))])) t
                exact k
              exact (own_k (f := fun (z : Int32) => mkF m 35 #[.val (.int p0), .val (.int p1), .val (.int p2), .val (.int p3), .val (.int p4)] [(.int z)]) ((if_pos hc1).trans ((if_neg hc2).trans ((if_neg hc3).trans ((if_pos hc7).trans (if_pos hc8))))) k)
            · skip
              refine XS.icmpYes X0.here hx rfl (pc0 := 27) (pc' := 34) rfl (hb hby d5_27) rfl (feq (hc8)).2 (by decide) (by decide) ?_
              show Steps p.tables e below (s₁.setTop (mkF m 34 #[.val (.int p0), .val (.int p1), .val (.int p2), .val (.int p3), .val (.int p4)] [])) t
              refine SGo.go (T' := s₁) (g' := (mkF m 35 #[.val (.int p0), .val (.int p1), .val (.int p2), .val (.int p3), .val (.int p4)] [(.int (0 : Int32))])) (fun t k => ?_) ?_
              · show Steps p.tables e below (s₁.setTop (mkF m 34 #[.val (.int p0), .val (.int p1), .val (.int p2), .val (.int p3), .val (.int p4)] [])) t
                refine XS.iconst X0.here hx rfl (hb hby d5_34) ?_
                show Steps p.tables e below (s₁.setTop (mkF m 35 #[.val (.int p0), .val (.int p1), .val (.int p2), .val (.int p3), .val (.int p4)] [(.int (0 : Int32))])) t
                exact k
              exact (own_k (f := fun (z : Int32) => mkF m 35 #[.val (.int p0), .val (.int p1), .val (.int p2), .val (.int p3), .val (.int p4)] [(.int z)]) ((if_pos hc1).trans ((if_neg hc2).trans ((if_neg hc3).trans ((if_pos hc7).trans (if_neg hc8))))) k)
          · skip
            refine XS.icmpYes X0.here hx rfl (pc0 := 21) (pc' := 34) rfl (hb hby d5_21) rfl (flt (hc7)).2.2.2 (by decide) (by decide) ?_
            show Steps p.tables e below (s₁.setTop (mkF m 34 #[.val (.int p0), .val (.int p1), .val (.int p2), .val (.int p3), .val (.int p4)] [])) t
            refine SGo.go (T' := s₁) (g' := (mkF m 35 #[.val (.int p0), .val (.int p1), .val (.int p2), .val (.int p3), .val (.int p4)] [(.int (0 : Int32))])) (fun t k => ?_) ?_
            · show Steps p.tables e below (s₁.setTop (mkF m 34 #[.val (.int p0), .val (.int p1), .val (.int p2), .val (.int p3), .val (.int p4)] [])) t
              refine XS.iconst X0.here hx rfl (hb hby d5_34) ?_
              show Steps p.tables e below (s₁.setTop (mkF m 35 #[.val (.int p0), .val (.int p1), .val (.int p2), .val (.int p3), .val (.int p4)] [(.int (0 : Int32))])) t
              exact k
            exact (own_k (f := fun (z : Int32) => mkF m 35 #[.val (.int p0), .val (.int p1), .val (.int p2), .val (.int p3), .val (.int p4)] [(.int z)]) ((if_pos hc1).trans ((if_neg hc2).trans ((if_neg hc3).trans (if_neg hc7)))) k)
    · skip
      refine XS.ifYes X0.here hx rfl (pc0 := 1) (pc' := 9) rfl (hb hby d5_1) rfl ((if0 _ _).trans (flt (hc1)).2.2.2) (by decide) (by decide) ?_
      show Steps p.tables e below (s₁.setTop (mkF m 9 #[.val (.int p0), .val (.int p1), .val (.int p2), .val (.int p3), .val (.int p4)] [])) t
      refine SGo.go (T' := s₁) (g' := (mkF m 11 #[.val (.int p0), .val (.int p1), .val (.int p2), .val (.int p3), .val (.int p4)] [(.int (1 : Int32)), (.int p1)])) (fun t k => ?_) ?_
      · show Steps p.tables e below (s₁.setTop (mkF m 9 #[.val (.int p0), .val (.int p1), .val (.int p2), .val (.int p3), .val (.int p4)] [])) t
        refine XS.iloadN X0.here hx rfl (hb hby d5_9) rfl ?_
        show Steps p.tables e below (s₁.setTop (mkF m 10 #[.val (.int p0), .val (.int p1), .val (.int p2), .val (.int p3), .val (.int p4)] [(.int p1)])) t
        refine XS.iconst X0.here hx rfl (hb hby d5_10) ?_
        show Steps p.tables e below (s₁.setTop (mkF m 11 #[.val (.int p0), .val (.int p1), .val (.int p2), .val (.int p3), .val (.int p4)] [(.int (1 : Int32)), (.int p1)])) t
        exact k
      by_cases hc9 : (1 : Int32) < p1
      · skip
        refine XS.icmpNo X0.here hx rfl (hb hby d5_11) rfl (tlt (hc9)).2.2.2 ?_
        show Steps p.tables e below (s₁.setTop (mkF m 14 #[.val (.int p0), .val (.int p1), .val (.int p2), .val (.int p3), .val (.int p4)] [])) t
        refine SGo.go (T' := s₁) (g' := (mkF m 16 #[.val (.int p0), .val (.int p1), .val (.int p2), .val (.int p3), .val (.int p4)] [(.int p0), (.int p3)])) (fun t k => ?_) ?_
        · show Steps p.tables e below (s₁.setTop (mkF m 14 #[.val (.int p0), .val (.int p1), .val (.int p2), .val (.int p3), .val (.int p4)] [])) t
          refine XS.iloadN X0.here hx rfl (hb hby d5_14) rfl ?_
          show Steps p.tables e below (s₁.setTop (mkF m 15 #[.val (.int p0), .val (.int p1), .val (.int p2), .val (.int p3), .val (.int p4)] [(.int p3)])) t
          refine XS.iloadN X0.here hx rfl (hb hby d5_15) rfl ?_
          show Steps p.tables e below (s₁.setTop (mkF m 16 #[.val (.int p0), .val (.int p1), .val (.int p2), .val (.int p3), .val (.int p4)] [(.int p0), (.int p3)])) t
          exact k
        by_cases hc10 : p3 = p0
        · skip
          refine XS.icmpYes X0.here hx rfl (pc0 := 16) (pc' := 30) rfl (hb hby d5_16) rfl (teq (hc10)).1 (by decide) (by decide) ?_
          show Steps p.tables e below (s₁.setTop (mkF m 30 #[.val (.int p0), .val (.int p1), .val (.int p2), .val (.int p3), .val (.int p4)] [])) t
          refine SGo.go (T' := s₁) (g' := (mkF m 35 #[.val (.int p0), .val (.int p1), .val (.int p2), .val (.int p3), .val (.int p4)] [(.int (1 : Int32))])) (fun t k => ?_) ?_
          · show Steps p.tables e below (s₁.setTop (mkF m 30 #[.val (.int p0), .val (.int p1), .val (.int p2), .val (.int p3), .val (.int p4)] [])) t
            refine XS.iconst X0.here hx rfl (hb hby d5_30) ?_
            show Steps p.tables e below (s₁.setTop (mkF m 31 #[.val (.int p0), .val (.int p1), .val (.int p2), .val (.int p3), .val (.int p4)] [(.int (1 : Int32))])) t
            refine XS.goto X0.here hx rfl (pc0 := 31) (pc' := 35) rfl (hb hby d5_31) (by decide) (by decide) ?_
            show Steps p.tables e below (s₁.setTop (mkF m 35 #[.val (.int p0), .val (.int p1), .val (.int p2), .val (.int p3), .val (.int p4)] [(.int (1 : Int32))])) t
            exact k
          exact (own_k (f := fun (z : Int32) => mkF m 35 #[.val (.int p0), .val (.int p1), .val (.int p2), .val (.int p3), .val (.int p4)] [(.int z)]) ((if_neg hc1).trans ((if_pos hc9).trans (if_pos hc10))) k)
        · skip
          refine XS.icmpNo X0.here hx rfl (hb hby d5_16) rfl (feq (hc10)).1 ?_
          show Steps p.tables e below (s₁.setTop (mkF m 19 #[.val (.int p0), .val (.int p1), .val (.int p2), .val (.int p3), .val (.int p4)] [])) t
          refine SGo.go (T' := s₁) (g' := (mkF m 21 #[.val (.int p0), .val (.int p1), .val (.int p2), .val (.int p3), .val (.int p4)] [(.int (2 : Int32)), (.int p1)])) (fun t k => ?_) ?_
          · show Steps p.tables e below (s₁.setTop (mkF m 19 #[.val (.int p0), .val (.int p1), .val (.int p2), .val (.int p3), .val (.int p4)] [])) t
            refine XS.iloadN X0.here hx rfl (hb hby d5_19) rfl ?_
            show Steps p.tables e below (s₁.setTop (mkF m 20 #[.val (.int p0), .val (.int p1), .val (.int p2), .val (.int p3), .val (.int p4)] [(.int p1)])) t
            refine XS.iconst X0.here hx rfl (hb hby d5_20) ?_
            show Steps p.tables e below (s₁.setTop (mkF m 21 #[.val (.int p0), .val (.int p1), .val (.int p2), .val (.int p3), .val (.int p4)] [(.int (2 : Int32)), (.int p1)])) t
            exact k
          by_cases hc11 : (2 : Int32) < p1
          · skip
            refine XS.icmpNo X0.here hx rfl (hb hby d5_21) rfl (tlt (hc11)).2.2.2 ?_
            show Steps p.tables e below (s₁.setTop (mkF m 24 #[.val (.int p0), .val (.int p1), .val (.int p2), .val (.int p3), .val (.int p4)] [])) t
            refine SGo.go (T' := s₁) (g' := (mkF m 27 #[.val (.int p0), .val (.int p1), .val (.int p2), .val (.int p3), .val (.int p4)] [(.int p0), (.int p4)])) (fun t k => ?_) ?_
            · show Steps p.tables e below (s₁.setTop (mkF m 24 #[.val (.int p0), .val (.int p1), .val (.int p2), .val (.int p3), .val (.int p4)] [])) t
              refine XS.iload X0.here hx rfl (hb hby d5_24) rfl ?_
              show Steps p.tables e below (s₁.setTop (mkF m 26 #[.val (.int p0), .val (.int p1), .val (.int p2), .val (.int p3), .val (.int p4)] [(.int p4)])) t
              refine XS.iloadN X0.here hx rfl (hb hby d5_26) rfl ?_
              show Steps p.tables e below (s₁.setTop (mkF m 27 #[.val (.int p0), .val (.int p1), .val (.int p2), .val (.int p3), .val (.int p4)] [(.int p0), (.int p4)])) t
              exact k
            by_cases hc12 : p4 = p0
            · skip
              refine XS.icmpNo X0.here hx rfl (hb hby d5_27) rfl (teq (hc12)).2 ?_
              show Steps p.tables e below (s₁.setTop (mkF m 30 #[.val (.int p0), .val (.int p1), .val (.int p2), .val (.int p3), .val (.int p4)] [])) t
              refine SGo.go (T' := s₁) (g' := (mkF m 35 #[.val (.int p0), .val (.int p1), .val (.int p2), .val (.int p3), .val (.int p4)] [(.int (1 : Int32))])) (fun t k => ?_) ?_
              · show Steps p.tables e below (s₁.setTop (mkF m 30 #[.val (.int p0), .val (.int p1), .val (.int p2), .val (.int p3), .val (.int p4)] [])) t
                refine XS.iconst X0.here hx rfl (hb hby d5_30) ?_
                show Steps p.tables e below (s₁.setTop (mkF m 31 #[.val (.int p0), .val (.int p1), .val (.int p2), .val (.int p3), .val (.int p4)] [(.int (1 : Int32))])) t
                refine XS.goto X0.here hx rfl (pc0 := 31) (pc' := 35) rfl (hb hby d5_31) (by decide) (by decide) ?_
                show Steps p.tables e below (s₁.setTop (mkF m 35 #[.val (.int p0), .val (.int p1), .val (.int p2), .val (.int p3), .val (.int p4)] [(.int (1 : Int32))])) t
                exact k
              exact (own_k (f := fun (z : Int32) => mkF m 35 #[.val (.int p0), .val (.int p1), .val (.int p2), .val (.int p3), .val (.int p4)] [(.int z)]) ((if_neg hc1).trans ((if_pos hc9).trans ((if_neg hc10).trans ((if_pos hc11).trans (if_pos hc12))))) k)
            · skip
              refine XS.icmpYes X0.here hx rfl (pc0 := 27) (pc' := 34) rfl (hb hby d5_27) rfl (feq (hc12)).2 (by decide) (by decide) ?_
              show Steps p.tables e below (s₁.setTop (mkF m 34 #[.val (.int p0), .val (.int p1), .val (.int p2), .val (.int p3), .val (.int p4)] [])) t
              refine SGo.go (T' := s₁) (g' := (mkF m 35 #[.val (.int p0), .val (.int p1), .val (.int p2), .val (.int p3), .val (.int p4)] [(.int (0 : Int32))])) (fun t k => ?_) ?_
              · show Steps p.tables e below (s₁.setTop (mkF m 34 #[.val (.int p0), .val (.int p1), .val (.int p2), .val (.int p3), .val (.int p4)] [])) t
                refine XS.iconst X0.here hx rfl (hb hby d5_34) ?_
                show Steps p.tables e below (s₁.setTop (mkF m 35 #[.val (.int p0), .val (.int p1), .val (.int p2), .val (.int p3), .val (.int p4)] [(.int (0 : Int32))])) t
                exact k
              exact (own_k (f := fun (z : Int32) => mkF m 35 #[.val (.int p0), .val (.int p1), .val (.int p2), .val (.int p3), .val (.int p4)] [(.int z)]) ((if_neg hc1).trans ((if_pos hc9).trans ((if_neg hc10).trans ((if_pos hc11).trans (if_neg hc12))))) k)
          · skip
            refine XS.icmpYes X0.here hx rfl (pc0 := 21) (pc' := 34) rfl (hb hby d5_21) rfl (flt (hc11)).2.2.2 (by decide) (by decide) ?_
            show Steps p.tables e below (s₁.setTop (mkF m 34 #[.val (.int p0), .val (.int p1), .val (.int p2), .val (.int p3), .val (.int p4)] [])) t
            refine SGo.go (T' := s₁) (g' := (mkF m 35 #[.val (.int p0), .val (.int p1), .val (.int p2), .val (.int p3), .val (.int p4)] [(.int (0 : Int32))])) (fun t k => ?_) ?_
            · show Steps p.tables e below (s₁.setTop (mkF m 34 #[.val (.int p0), .val (.int p1), .val (.int p2), .val (.int p3), .val (.int p4)] [])) t
              refine XS.iconst X0.here hx rfl (hb hby d5_34) ?_
              show Steps p.tables e below (s₁.setTop (mkF m 35 #[.val (.int p0), .val (.int p1), .val (.int p2), .val (.int p3), .val (.int p4)] [(.int (0 : Int32))])) t
              exact k
            exact (own_k (f := fun (z : Int32) => mkF m 35 #[.val (.int p0), .val (.int p1), .val (.int p2), .val (.int p3), .val (.int p4)] [(.int z)]) ((if_neg hc1).trans ((if_pos hc9).trans ((if_neg hc10).trans (if_neg hc11)))) k)
      · skip
        refine XS.icmpYes X0.here hx rfl (pc0 := 11) (pc' := 19) rfl (hb hby d5_11) rfl (flt (hc9)).2.2.2 (by decide) (by decide) ?_
        show Steps p.tables e below (s₁.setTop (mkF m 19 #[.val (.int p0), .val (.int p1), .val (.int p2), .val (.int p3), .val (.int p4)] [])) t
        refine SGo.go (T' := s₁) (g' := (mkF m 21 #[.val (.int p0), .val (.int p1), .val (.int p2), .val (.int p3), .val (.int p4)] [(.int (2 : Int32)), (.int p1)])) (fun t k => ?_) ?_
        · show Steps p.tables e below (s₁.setTop (mkF m 19 #[.val (.int p0), .val (.int p1), .val (.int p2), .val (.int p3), .val (.int p4)] [])) t
          refine XS.iloadN X0.here hx rfl (hb hby d5_19) rfl ?_
          show Steps p.tables e below (s₁.setTop (mkF m 20 #[.val (.int p0), .val (.int p1), .val (.int p2), .val (.int p3), .val (.int p4)] [(.int p1)])) t
          refine XS.iconst X0.here hx rfl (hb hby d5_20) ?_
          show Steps p.tables e below (s₁.setTop (mkF m 21 #[.val (.int p0), .val (.int p1), .val (.int p2), .val (.int p3), .val (.int p4)] [(.int (2 : Int32)), (.int p1)])) t
          exact k
        by_cases hc13 : (2 : Int32) < p1
        · skip
          refine XS.icmpNo X0.here hx rfl (hb hby d5_21) rfl (tlt (hc13)).2.2.2 ?_
          show Steps p.tables e below (s₁.setTop (mkF m 24 #[.val (.int p0), .val (.int p1), .val (.int p2), .val (.int p3), .val (.int p4)] [])) t
          refine SGo.go (T' := s₁) (g' := (mkF m 27 #[.val (.int p0), .val (.int p1), .val (.int p2), .val (.int p3), .val (.int p4)] [(.int p0), (.int p4)])) (fun t k => ?_) ?_
          · show Steps p.tables e below (s₁.setTop (mkF m 24 #[.val (.int p0), .val (.int p1), .val (.int p2), .val (.int p3), .val (.int p4)] [])) t
            refine XS.iload X0.here hx rfl (hb hby d5_24) rfl ?_
            show Steps p.tables e below (s₁.setTop (mkF m 26 #[.val (.int p0), .val (.int p1), .val (.int p2), .val (.int p3), .val (.int p4)] [(.int p4)])) t
            refine XS.iloadN X0.here hx rfl (hb hby d5_26) rfl ?_
            show Steps p.tables e below (s₁.setTop (mkF m 27 #[.val (.int p0), .val (.int p1), .val (.int p2), .val (.int p3), .val (.int p4)] [(.int p0), (.int p4)])) t
            exact k
          by_cases hc14 : p4 = p0
          · skip
            refine XS.icmpNo X0.here hx rfl (hb hby d5_27) rfl (teq (hc14)).2 ?_
            show Steps p.tables e below (s₁.setTop (mkF m 30 #[.val (.int p0), .val (.int p1), .val (.int p2), .val (.int p3), .val (.int p4)] [])) t
            refine SGo.go (T' := s₁) (g' := (mkF m 35 #[.val (.int p0), .val (.int p1), .val (.int p2), .val (.int p3), .val (.int p4)] [(.int (1 : Int32))])) (fun t k => ?_) ?_
            · show Steps p.tables e below (s₁.setTop (mkF m 30 #[.val (.int p0), .val (.int p1), .val (.int p2), .val (.int p3), .val (.int p4)] [])) t
              refine XS.iconst X0.here hx rfl (hb hby d5_30) ?_
              show Steps p.tables e below (s₁.setTop (mkF m 31 #[.val (.int p0), .val (.int p1), .val (.int p2), .val (.int p3), .val (.int p4)] [(.int (1 : Int32))])) t
              refine XS.goto X0.here hx rfl (pc0 := 31) (pc' := 35) rfl (hb hby d5_31) (by decide) (by decide) ?_
              show Steps p.tables e below (s₁.setTop (mkF m 35 #[.val (.int p0), .val (.int p1), .val (.int p2), .val (.int p3), .val (.int p4)] [(.int (1 : Int32))])) t
              exact k
            exact (own_k (f := fun (z : Int32) => mkF m 35 #[.val (.int p0), .val (.int p1), .val (.int p2), .val (.int p3), .val (.int p4)] [(.int z)]) ((if_neg hc1).trans ((if_neg hc9).trans ((if_pos hc13).trans (if_pos hc14)))) k)
          · skip
            refine XS.icmpYes X0.here hx rfl (pc0 := 27) (pc' := 34) rfl (hb hby d5_27) rfl (feq (hc14)).2 (by decide) (by decide) ?_
            show Steps p.tables e below (s₁.setTop (mkF m 34 #[.val (.int p0), .val (.int p1), .val (.int p2), .val (.int p3), .val (.int p4)] [])) t
            refine SGo.go (T' := s₁) (g' := (mkF m 35 #[.val (.int p0), .val (.int p1), .val (.int p2), .val (.int p3), .val (.int p4)] [(.int (0 : Int32))])) (fun t k => ?_) ?_
            · show Steps p.tables e below (s₁.setTop (mkF m 34 #[.val (.int p0), .val (.int p1), .val (.int p2), .val (.int p3), .val (.int p4)] [])) t
              refine XS.iconst X0.here hx rfl (hb hby d5_34) ?_
              show Steps p.tables e below (s₁.setTop (mkF m 35 #[.val (.int p0), .val (.int p1), .val (.int p2), .val (.int p3), .val (.int p4)] [(.int (0 : Int32))])) t
              exact k
            exact (own_k (f := fun (z : Int32) => mkF m 35 #[.val (.int p0), .val (.int p1), .val (.int p2), .val (.int p3), .val (.int p4)] [(.int z)]) ((if_neg hc1).trans ((if_neg hc9).trans ((if_pos hc13).trans (if_neg hc14)))) k)
        · skip
          refine XS.icmpYes X0.here hx rfl (pc0 := 21) (pc' := 34) rfl (hb hby d5_21) rfl (flt (hc13)).2.2.2 (by decide) (by decide) ?_
          show Steps p.tables e below (s₁.setTop (mkF m 34 #[.val (.int p0), .val (.int p1), .val (.int p2), .val (.int p3), .val (.int p4)] [])) t
          refine SGo.go (T' := s₁) (g' := (mkF m 35 #[.val (.int p0), .val (.int p1), .val (.int p2), .val (.int p3), .val (.int p4)] [(.int (0 : Int32))])) (fun t k => ?_) ?_
          · show Steps p.tables e below (s₁.setTop (mkF m 34 #[.val (.int p0), .val (.int p1), .val (.int p2), .val (.int p3), .val (.int p4)] [])) t
            refine XS.iconst X0.here hx rfl (hb hby d5_34) ?_
            show Steps p.tables e below (s₁.setTop (mkF m 35 #[.val (.int p0), .val (.int p1), .val (.int p2), .val (.int p3), .val (.int p4)] [(.int (0 : Int32))])) t
            exact k
          exact (own_k (f := fun (z : Int32) => mkF m 35 #[.val (.int p0), .val (.int p1), .val (.int p2), .val (.int p3), .val (.int p4)] [(.int z)]) ((if_neg hc1).trans ((if_neg hc9).trans (if_neg hc13))) k)
  exact OEnd.nar X0 hx (t := .boolean) Bd.returns (by simp) hlk (hb hby d5_35) ⟨rfl, N0, e0⟩ (by decide) (by decide)
theorem own_head {A : Type} {l r : List A} {x : A} {i : Nat} (h : l.drop i = x :: r) : l[i]? = some x := by
  have q : (l.drop i)[0]? = some x := by rw [h]; rfl
  rw [List.getElem?_drop] at q
  exact q
theorem own_tail {A : Type} {l r : List A} {x : A} {i : Nat} (h : l.drop i = x :: r) : l.drop (i + 1) = r := by
  have q : (l.drop i).drop 1 = r := by rw [h]; rfl
  rw [List.drop_drop] at q
  exact q
theorem own_lenlt {A : Type} {l r : List A} {x : A} {i : Nat} (h : l.drop i = x :: r) : i < l.length := by
  have q := own_head h
  exact (List.getElem?_eq_some_iff.mp q).1
theorem own_lenge {A : Type} {l : List A} {i : Nat} (h : l.drop i = []) : l.length ≤ i := List.drop_eq_nil_iff.mp h
theorem own_oflt {i n : Nat} (hi : i < n) (hn : n < 2147483648) : Int32.ofNat i < Int32.ofNat n := by
  rw [Int32.lt_iff_toInt_lt, Int32.toInt_ofNat_of_lt (by omega), Int32.toInt_ofNat_of_lt (by omega)]
  omega
theorem own_ofge {i n : Nat} (hi : n ≤ i) (hn : i < 2147483648) : ¬ (Int32.ofNat i < Int32.ofNat n) := by
  rw [Int32.lt_iff_toInt_lt, Int32.toInt_ofNat_of_lt (by omega), Int32.toInt_ofNat_of_lt (by omega)]
  omega
theorem own_clamp {i : Nat} (hi : i < 2147483648) : (Int32.ofNat i).toNatClampNeg = i := by
  rw [Int32.toNatClampNeg, Int32.toInt_ofNat_of_lt (by omega)]
  exact Int.toNat_natCast i
theorem own_read {c : Cell} {n : Int32} {xs : List Int32} {d : Value} {i : Nat} {x : Int32} (S : c.slots.size = n.toNatClampNeg) (hn : n = Int32.ofNat xs.length) (lx : xs.length < 2147483648) (H : Has c (xs.map Value.int) d) (h : xs[i]? = some x) :
    ¬ (Int32.ofNat i < 0 ∨ c.slots.size ≤ (Int32.ofNat i).toNatClampNeg) ∧ c.slots[(Int32.ofNat i).toNatClampNeg]? = some (.int x) := by
  have hi := (List.getElem?_eq_some_iff.mp h).1
  have e1 : (Int32.ofNat i).toNatClampNeg = i := own_clamp (by omega)
  have e2 : c.slots.size = xs.length := by rw [S, hn]; exact own_clamp lx
  rw [e1, e2]
  refine ⟨?_, ?_⟩
  · rw [Int32.lt_iff_toInt_lt, Int32.toInt_ofNat_of_lt (by omega)]
    have e0 : (0 : Int32).toInt = 0 := by decide
    omega
  · have q := H i (by omega)
    rw [q, List.getD_eq_getElem?_getD, List.getElem?_map, h]
    rfl
def wadv (x : Int32) : List Int32 → List Int32
  | [] => []
  | y :: r => if y < x then wadv x r else y :: r
def wi : List Int32 → List Int32 → Int32
  | [], _ => 1
  | x :: xs, ys => match wadv x ys with
    | [] => 0
    | y :: r => if y = x then wi xs (y :: r) else 0
theorem wi_cons (x : Int32) (xs ys : List Int32) : wi (x :: xs) ys = (match wadv x ys with
    | [] => 0
    | y :: r => if y = x then wi xs (y :: r) else 0) := by rw [wi]

theorem d4_0 : decode prog_43_method_5_code 0 = .ok (.iconst 0, 1) := by decide +kernel
theorem d4_1 : decode prog_43_method_5_code 1 = .ok (.istore_n 2, 1) := by decide +kernel
theorem d4_2 : decode prog_43_method_5_code 2 = .ok (.aload_n 0, 1) := by decide +kernel
theorem d4_3 : decode prog_43_method_5_code 3 = .ok (.astore_n 3, 1) := by decide +kernel
theorem d4_4 : decode prog_43_method_5_code 4 = .ok (.aload_n 3, 1) := by decide +kernel
theorem d4_5 : decode prog_43_method_5_code 5 = .ok (.arraylength, 1) := by decide +kernel
theorem d4_6 : decode prog_43_method_5_code 6 = .ok (.istore 4, 2) := by decide +kernel
theorem d4_8 : decode prog_43_method_5_code 8 = .ok (.iconst 0, 1) := by decide +kernel
theorem d4_9 : decode prog_43_method_5_code 9 = .ok (.istore 5, 2) := by decide +kernel
theorem d4_11 : decode prog_43_method_5_code 11 = .ok (.iload 5, 2) := by decide +kernel
theorem d4_13 : decode prog_43_method_5_code 13 = .ok (.iload 4, 2) := by decide +kernel
theorem d4_15 : decode prog_43_method_5_code 15 = .ok (.if_icmp .ge 51, 3) := by decide +kernel
theorem d4_18 : decode prog_43_method_5_code 18 = .ok (.aload_n 3, 1) := by decide +kernel
theorem d4_19 : decode prog_43_method_5_code 19 = .ok (.iload 5, 2) := by decide +kernel
theorem d4_21 : decode prog_43_method_5_code 21 = .ok (.iaload, 1) := by decide +kernel
theorem d4_22 : decode prog_43_method_5_code 22 = .ok (.istore 6, 2) := by decide +kernel
theorem d4_24 : decode prog_43_method_5_code 24 = .ok (.iload_n 2, 1) := by decide +kernel
theorem d4_25 : decode prog_43_method_5_code 25 = .ok (.aload_n 1, 1) := by decide +kernel
theorem d4_26 : decode prog_43_method_5_code 26 = .ok (.arraylength, 1) := by decide +kernel
theorem d4_27 : decode prog_43_method_5_code 27 = .ok (.if_icmp .ge 17, 3) := by decide +kernel
theorem d4_30 : decode prog_43_method_5_code 30 = .ok (.aload_n 1, 1) := by decide +kernel
theorem d4_31 : decode prog_43_method_5_code 31 = .ok (.iload_n 2, 1) := by decide +kernel
theorem d4_32 : decode prog_43_method_5_code 32 = .ok (.iaload, 1) := by decide +kernel
theorem d4_33 : decode prog_43_method_5_code 33 = .ok (.iload 6, 2) := by decide +kernel
theorem d4_35 : decode prog_43_method_5_code 35 = .ok (.if_icmp .ge 9, 3) := by decide +kernel
theorem d4_38 : decode prog_43_method_5_code 38 = .ok (.iinc 2 1, 3) := by decide +kernel
theorem d4_41 : decode prog_43_method_5_code 41 = .ok (.goto (-17), 3) := by decide +kernel
theorem d4_44 : decode prog_43_method_5_code 44 = .ok (.iload_n 2, 1) := by decide +kernel
theorem d4_45 : decode prog_43_method_5_code 45 = .ok (.aload_n 1, 1) := by decide +kernel
theorem d4_46 : decode prog_43_method_5_code 46 = .ok (.arraylength, 1) := by decide +kernel
theorem d4_47 : decode prog_43_method_5_code 47 = .ok (.if_icmp .eq 11, 3) := by decide +kernel
theorem d4_50 : decode prog_43_method_5_code 50 = .ok (.aload_n 1, 1) := by decide +kernel
theorem d4_51 : decode prog_43_method_5_code 51 = .ok (.iload_n 2, 1) := by decide +kernel
theorem d4_52 : decode prog_43_method_5_code 52 = .ok (.iaload, 1) := by decide +kernel
theorem d4_53 : decode prog_43_method_5_code 53 = .ok (.iload 6, 2) := by decide +kernel
theorem d4_55 : decode prog_43_method_5_code 55 = .ok (.if_icmp .eq 5, 3) := by decide +kernel
theorem d4_60 : decode prog_43_method_5_code 60 = .ok (.iinc 5 1, 3) := by decide +kernel
theorem d4_63 : decode prog_43_method_5_code 63 = .ok (.goto (-52), 3) := by decide +kernel
theorem d4_58 : decode prog_43_method_5_code 58 = .ok (.iconst 0, 1) := by decide +kernel
theorem d4_66 : decode prog_43_method_5_code 66 = .ok (.iconst 1, 1) := by decide +kernel
theorem d4_67 : decode prog_43_method_5_code 67 = .ok (.ireturn, 1) := by decide +kernel
theorem d4_59 : decode prog_43_method_5_code 59 = .ok (.ireturn, 1) := by decide +kernel
theorem pn_com_example_nuthatch_nuthatch_logic_Demands : plainName "com/example/nuthatch/nuthatch/logic/Demands" = true := by first | (simp [plainName, overriddenIn]; done) | decide +kernel
theorem ef_4 (m : MethodId) (x0 : Addr) (x1 : Addr) : entryFrame m #[(.ref x0), (.ref x1)] 7 = mkF m 0 #[.val (.ref x0), .val (.ref x1), .unset, .unset, .unset, .unset, .unset] [] := by first | (simp [entryFrame, mkF, argsToLocals, Value.category]; done) | rfl
def Q4 (Z : State) (a0 : Addr) (a1 : Addr) (xs : List Int32) (ys : List Int32) (na : Int32) (nb : Int32) (h0 : Heap) (n0 : Nat) (v : Option Value) (h : Heap) (L : List Loc) : Prop := v = some (.int (nar .boolean (wi xs ys))) ∧ Fr n0 L ∧ h = h0
set_option maxRecDepth 65536 in
set_option maxHeartbeats 40000000 in
theorem rm4 (l : Launch) (Z : State) (aZ : Array Value) (hw : ∀ d ∈ tables_1, d.before aZ Z = true) (ws : List Jvm.Cond) (a0 : Addr) (a1 : Addr) (xs : List Int32) (ys : List Int32) (na : Int32) (nb : Int32) (h0 : Heap) (n0 : Nat) (Z0 : n0 ≤ h0.size) (A0 : OArr Z h0 a0 .int na (xs.map Value.int) (.int (0 : Int32))) (A1 : OArr Z h0 a1 .int nb (ys.map Value.int) (.int (0 : Int32))) (hna : na = Int32.ofNat xs.length) (hnb : nb = Int32.ofNat ys.length) (lx : xs.length < 2147483648) (ly : ys.length < 2147483648) :
    MetFree l (⟨"com/example/nuthatch/nuthatch/logic/Demands", "within", "([I[I)Z"⟩ : MethodName) (head1 (Jvm.Cond.code (⟨"com/example/nuthatch/nuthatch/logic/Demands", "within", "([I[I)Z"⟩ : MethodName) prog_43_method_5_code 7 (some .boolean) :: ws) ({ frames := 0, cells := 0, slots := 0, locals := 0 } : Room)) (fun a U => a = #[(.ref a0), (.ref a1)] ∧ Z.Warmed39 U.vm ∧ U.heap = h0) (fun _ _ _ _ _ => True) (fun _ U o U' => ∃ v L, o = .returned v ∧ Q4 Z a0 a1 xs ys na nb h0 n0 v U'.heap L ∧ FrameEnd U o U' L ({ frames := 0, cells := 0, slots := 0, locals := 0 } : Room).cells ({ frames := 0, cells := 0, slots := 0, locals := 0 } : Room).slots) := by
  refine MetFree.of_bodySF (plainFor_of_name pn_com_example_nuthatch_nuthatch_logic_Demands) hisR ?_
  intro p e s m args below meth c s₁ Bd hml0 hP hK
  obtain ⟨rfl, hZ, hh⟩ := hP
  have hx := Bd.exec
  have hby := Bd.bytes
  have hlk : meth.locks = false := BodyLoose.notSynchronized Bd
  have hml : c.maxLocals = 7 := hml0
  have hown : s.vm.findClass "com/example/nuthatch/nuthatch/logic/Demands" = some m.cls := findClass_of_methodNamed Bd.named
  have hnm := (name_of_methodNamed Bd.named Bd.method).1
  have X0 : Stand p l e ({ frames := 0, cells := 0, slots := 0, locals := 0 } : Room) s m #[(.ref a0), (.ref a1)] below meth c s₁ [] 0 0 := Stand.of_body Bd
  have e0 : s₁.heap = h0 := by rw [← hh, Bd.state]; rfl
  have N0 := Fr.nil n0
  show OEnd p e below s s₁ (entryFrame m #[(.ref a0), (.ref a1)] 7) (Q4 Z a0 a1 xs ys na nb h0 n0) ({ frames := 0, cells := 0, slots := 0, locals := 0 } : Room).cells ({ frames := 0, cells := 0, slots := 0, locals := 0 } : Room).slots
  refine OEnd.go (g' := (mkF m 0 #[.val (.ref a0), .val (.ref a1), .unset, .unset, .unset, .unset, .unset] [])) (fun _ k => castTop (ef_4 m a0 a1) k) ?_
  obtain ⟨k0, c0, Ar0, q0, S0, M0, H0, G0⟩ := A0
  obtain ⟨k1, c1, Ar1, q1, S1, M1, H1, G1⟩ := A1
  have sgS : ∀ (u : Unit), Goes p e below s₁ (mkF m 0 #[.val (.ref a0), .val (.ref a1), .unset, .unset, .unset, .unset, .unset] []) s₁ (mkF m 11 #[.val (.ref a0), .val (.ref a1), .val (.int (0 : Int32)), .val (.ref a0), .val (.int na), .val (.int (0 : Int32)), .unset] []) := by
    intro u t k
    refine SGo.go (T' := s₁) (g' := (mkF m 5 #[.val (.ref a0), .val (.ref a1), .val (.int (0 : Int32)), .val (.ref a0), .unset, .unset, .unset] [(.ref a0)])) (fun t k => ?_) ?_
    · show Steps p.tables e below (s₁.setTop (mkF m 0 #[.val (.ref a0), .val (.ref a1), .unset, .unset, .unset, .unset, .unset] [])) t
      refine XS.iconst X0.here hx rfl (hb hby d4_0) ?_
      show Steps p.tables e below (s₁.setTop (mkF m 1 #[.val (.ref a0), .val (.ref a1), .unset, .unset, .unset, .unset, .unset] [(.int (0 : Int32))])) t
      refine XS.istoreN X0.here hx rfl (hb hby d4_1) rfl (l' := #[.val (.ref a0), .val (.ref a1), .val (.int (0 : Int32)), .unset, .unset, .unset, .unset]) rfl ?_
      show Steps p.tables e below (s₁.setTop (mkF m 2 #[.val (.ref a0), .val (.ref a1), .val (.int (0 : Int32)), .unset, .unset, .unset, .unset] [])) t
      refine XS.aloadN X0.here hx rfl (hb hby d4_2) rfl rfl ?_
      show Steps p.tables e below (s₁.setTop (mkF m 3 #[.val (.ref a0), .val (.ref a1), .val (.int (0 : Int32)), .unset, .unset, .unset, .unset] [(.ref a0)])) t
      refine XS.astoreN X0.here hx rfl (hb hby d4_3) rfl rfl (l' := #[.val (.ref a0), .val (.ref a1), .val (.int (0 : Int32)), .val (.ref a0), .unset, .unset, .unset]) rfl ?_
      show Steps p.tables e below (s₁.setTop (mkF m 4 #[.val (.ref a0), .val (.ref a1), .val (.int (0 : Int32)), .val (.ref a0), .unset, .unset, .unset] [])) t
      refine XS.aloadN X0.here hx rfl (hb hby d4_4) rfl rfl ?_
      show Steps p.tables e below (s₁.setTop (mkF m 5 #[.val (.ref a0), .val (.ref a1), .val (.int (0 : Int32)), .val (.ref a0), .unset, .unset, .unset] [(.ref a0)])) t
      exact k
    refine SGo.go (T' := s₁) (g' := (mkF m 6 #[.val (.ref a0), .val (.ref a1), .val (.int (0 : Int32)), .val (.ref a0), .unset, .unset, .unset] [(.int na)])) (fun t k => ?_) ?_
    · refine X0.arraylength hx (by rw [e0]; exact Ar0.1) (State.isArrayOf_alike hZ.alike Ar0.2.1) (g := (mkF m 5 #[.val (.ref a0), .val (.ref a1), .val (.int (0 : Int32)), .val (.ref a0), .unset, .unset, .unset] [(.ref a0)])) rfl rfl (hb hby d4_5) _ ?_
      rw [len_of S0 M0]
      exact k
    refine SGo.go (T' := s₁) (g' := (mkF m 11 #[.val (.ref a0), .val (.ref a1), .val (.int (0 : Int32)), .val (.ref a0), .val (.int na), .val (.int (0 : Int32)), .unset] [])) (fun t k => ?_) ?_
    · show Steps p.tables e below (s₁.setTop (mkF m 6 #[.val (.ref a0), .val (.ref a1), .val (.int (0 : Int32)), .val (.ref a0), .unset, .unset, .unset] [(.int na)])) t
      refine XS.istore X0.here hx rfl (hb hby d4_6) rfl (l' := #[.val (.ref a0), .val (.ref a1), .val (.int (0 : Int32)), .val (.ref a0), .val (.int na), .unset, .unset]) rfl ?_
      show Steps p.tables e below (s₁.setTop (mkF m 8 #[.val (.ref a0), .val (.ref a1), .val (.int (0 : Int32)), .val (.ref a0), .val (.int na), .unset, .unset] [])) t
      refine XS.iconst X0.here hx rfl (hb hby d4_8) ?_
      show Steps p.tables e below (s₁.setTop (mkF m 9 #[.val (.ref a0), .val (.ref a1), .val (.int (0 : Int32)), .val (.ref a0), .val (.int na), .unset, .unset] [(.int (0 : Int32))])) t
      refine XS.istore X0.here hx rfl (hb hby d4_9) rfl (l' := #[.val (.ref a0), .val (.ref a1), .val (.int (0 : Int32)), .val (.ref a0), .val (.int na), .val (.int (0 : Int32)), .unset]) rfl ?_
      show Steps p.tables e below (s₁.setTop (mkF m 11 #[.val (.ref a0), .val (.ref a1), .val (.int (0 : Int32)), .val (.ref a0), .val (.int na), .val (.int (0 : Int32)), .unset] [])) t
      exact k
    exact k
  have sgAu : ∀ (i j : Nat) (x : Int32) (hx0 : xs[i]? = some x) (hi : (Int32.ofNat i) < na), Goes p e below s₁ (mkF m 11 #[.val (.ref a0), .val (.ref a1), .val (.int (Int32.ofNat j)), .val (.ref a0), .val (.int na), .val (.int (Int32.ofNat i)), .unset] []) s₁ (mkF m 24 #[.val (.ref a0), .val (.ref a1), .val (.int (Int32.ofNat j)), .val (.ref a0), .val (.int na), .val (.int (Int32.ofNat i)), .val (.int x)] []) := by
    intro i j x hx0 hi t k
    refine SGo.go (T' := s₁) (g' := (mkF m 21 #[.val (.ref a0), .val (.ref a1), .val (.int (Int32.ofNat j)), .val (.ref a0), .val (.int na), .val (.int (Int32.ofNat i)), .unset] [(.int (Int32.ofNat i)), (.ref a0)])) (fun t k => ?_) ?_
    · show Steps p.tables e below (s₁.setTop (mkF m 11 #[.val (.ref a0), .val (.ref a1), .val (.int (Int32.ofNat j)), .val (.ref a0), .val (.int na), .val (.int (Int32.ofNat i)), .unset] [])) t
      refine XS.iload X0.here hx rfl (hb hby d4_11) rfl ?_
      show Steps p.tables e below (s₁.setTop (mkF m 13 #[.val (.ref a0), .val (.ref a1), .val (.int (Int32.ofNat j)), .val (.ref a0), .val (.int na), .val (.int (Int32.ofNat i)), .unset] [(.int (Int32.ofNat i))])) t
      refine XS.iload X0.here hx rfl (hb hby d4_13) rfl ?_
      show Steps p.tables e below (s₁.setTop (mkF m 15 #[.val (.ref a0), .val (.ref a1), .val (.int (Int32.ofNat j)), .val (.ref a0), .val (.int na), .val (.int (Int32.ofNat i)), .unset] [(.int na), (.int (Int32.ofNat i))])) t
      refine XS.icmpNo X0.here hx rfl (hb hby d4_15) rfl (tlt (hi)).2.1 ?_
      show Steps p.tables e below (s₁.setTop (mkF m 18 #[.val (.ref a0), .val (.ref a1), .val (.int (Int32.ofNat j)), .val (.ref a0), .val (.int na), .val (.int (Int32.ofNat i)), .unset] [])) t
      refine XS.aloadN X0.here hx rfl (hb hby d4_18) rfl rfl ?_
      show Steps p.tables e below (s₁.setTop (mkF m 19 #[.val (.ref a0), .val (.ref a1), .val (.int (Int32.ofNat j)), .val (.ref a0), .val (.int na), .val (.int (Int32.ofNat i)), .unset] [(.ref a0)])) t
      refine XS.iload X0.here hx rfl (hb hby d4_19) rfl ?_
      show Steps p.tables e below (s₁.setTop (mkF m 21 #[.val (.ref a0), .val (.ref a1), .val (.int (Int32.ofNat j)), .val (.ref a0), .val (.int na), .val (.int (Int32.ofNat i)), .unset] [(.int (Int32.ofNat i)), (.ref a0)])) t
      exact k
    refine SGo.go (T' := s₁) (g' := (mkF m 22 #[.val (.ref a0), .val (.ref a1), .val (.int (Int32.ofNat j)), .val (.ref a0), .val (.int na), .val (.int (Int32.ofNat i)), .unset] [(.int x)])) (fun t k => ?_) ?_
    · refine X0.iaload hx (j := (Int32.ofNat i)) (v := (.int x)) (by rw [e0]; exact Ar0.1) (State.isArrayOf_alike hZ.alike Ar0.2.1) Ar0.2.2 (own_read S0 hna lx H0 hx0).1 (own_read S0 hna lx H0 hx0).2 (g := (mkF m 21 #[.val (.ref a0), .val (.ref a1), .val (.int (Int32.ofNat j)), .val (.ref a0), .val (.int na), .val (.int (Int32.ofNat i)), .unset] [(.int (Int32.ofNat i)), (.ref a0)])) rfl rfl (hb hby d4_21) _ ?_
      exact k
    refine SGo.go (T' := s₁) (g' := (mkF m 24 #[.val (.ref a0), .val (.ref a1), .val (.int (Int32.ofNat j)), .val (.ref a0), .val (.int na), .val (.int (Int32.ofNat i)), .val (.int x)] [])) (fun t k => ?_) ?_
    · show Steps p.tables e below (s₁.setTop (mkF m 22 #[.val (.ref a0), .val (.ref a1), .val (.int (Int32.ofNat j)), .val (.ref a0), .val (.int na), .val (.int (Int32.ofNat i)), .unset] [(.int x)])) t
      refine XS.istore X0.here hx rfl (hb hby d4_22) rfl (l' := #[.val (.ref a0), .val (.ref a1), .val (.int (Int32.ofNat j)), .val (.ref a0), .val (.int na), .val (.int (Int32.ofNat i)), .val (.int x)]) rfl ?_
      show Steps p.tables e below (s₁.setTop (mkF m 24 #[.val (.ref a0), .val (.ref a1), .val (.int (Int32.ofNat j)), .val (.ref a0), .val (.int na), .val (.int (Int32.ofNat i)), .val (.int x)] [])) t
      exact k
    exact k
  have sgXu : ∀ (i j : Nat) (hi : ¬ ((Int32.ofNat i) < na)), Goes p e below s₁ (mkF m 11 #[.val (.ref a0), .val (.ref a1), .val (.int (Int32.ofNat j)), .val (.ref a0), .val (.int na), .val (.int (Int32.ofNat i)), .unset] []) s₁ (mkF m 66 #[.val (.ref a0), .val (.ref a1), .val (.int (Int32.ofNat j)), .val (.ref a0), .val (.int na), .val (.int (Int32.ofNat i)), .unset] []) := by
    intro i j hi t k
    refine SGo.go (T' := s₁) (g' := (mkF m 66 #[.val (.ref a0), .val (.ref a1), .val (.int (Int32.ofNat j)), .val (.ref a0), .val (.int na), .val (.int (Int32.ofNat i)), .unset] [])) (fun t k => ?_) ?_
    · show Steps p.tables e below (s₁.setTop (mkF m 11 #[.val (.ref a0), .val (.ref a1), .val (.int (Int32.ofNat j)), .val (.ref a0), .val (.int na), .val (.int (Int32.ofNat i)), .unset] [])) t
      refine XS.iload X0.here hx rfl (hb hby d4_11) rfl ?_
      show Steps p.tables e below (s₁.setTop (mkF m 13 #[.val (.ref a0), .val (.ref a1), .val (.int (Int32.ofNat j)), .val (.ref a0), .val (.int na), .val (.int (Int32.ofNat i)), .unset] [(.int (Int32.ofNat i))])) t
      refine XS.iload X0.here hx rfl (hb hby d4_13) rfl ?_
      show Steps p.tables e below (s₁.setTop (mkF m 15 #[.val (.ref a0), .val (.ref a1), .val (.int (Int32.ofNat j)), .val (.ref a0), .val (.int na), .val (.int (Int32.ofNat i)), .unset] [(.int na), (.int (Int32.ofNat i))])) t
      refine XS.icmpYes X0.here hx rfl (pc0 := 15) (pc' := 66) rfl (hb hby d4_15) rfl (flt (hi)).2.1 (by decide) (by decide) ?_
      show Steps p.tables e below (s₁.setTop (mkF m 66 #[.val (.ref a0), .val (.ref a1), .val (.int (Int32.ofNat j)), .val (.ref a0), .val (.int na), .val (.int (Int32.ofNat i)), .unset] [])) t
      exact k
    exact k
  have sgAv : ∀ (i j : Nat) (x : Int32) (z : Int32) (hx0 : xs[i]? = some x) (hi : (Int32.ofNat i) < na), Goes p e below s₁ (mkF m 11 #[.val (.ref a0), .val (.ref a1), .val (.int (Int32.ofNat j)), .val (.ref a0), .val (.int na), .val (.int (Int32.ofNat i)), .val (.int z)] []) s₁ (mkF m 24 #[.val (.ref a0), .val (.ref a1), .val (.int (Int32.ofNat j)), .val (.ref a0), .val (.int na), .val (.int (Int32.ofNat i)), .val (.int x)] []) := by
    intro i j x z hx0 hi t k
    refine SGo.go (T' := s₁) (g' := (mkF m 21 #[.val (.ref a0), .val (.ref a1), .val (.int (Int32.ofNat j)), .val (.ref a0), .val (.int na), .val (.int (Int32.ofNat i)), .val (.int z)] [(.int (Int32.ofNat i)), (.ref a0)])) (fun t k => ?_) ?_
    · show Steps p.tables e below (s₁.setTop (mkF m 11 #[.val (.ref a0), .val (.ref a1), .val (.int (Int32.ofNat j)), .val (.ref a0), .val (.int na), .val (.int (Int32.ofNat i)), .val (.int z)] [])) t
      refine XS.iload X0.here hx rfl (hb hby d4_11) rfl ?_
      show Steps p.tables e below (s₁.setTop (mkF m 13 #[.val (.ref a0), .val (.ref a1), .val (.int (Int32.ofNat j)), .val (.ref a0), .val (.int na), .val (.int (Int32.ofNat i)), .val (.int z)] [(.int (Int32.ofNat i))])) t
      refine XS.iload X0.here hx rfl (hb hby d4_13) rfl ?_
      show Steps p.tables e below (s₁.setTop (mkF m 15 #[.val (.ref a0), .val (.ref a1), .val (.int (Int32.ofNat j)), .val (.ref a0), .val (.int na), .val (.int (Int32.ofNat i)), .val (.int z)] [(.int na), (.int (Int32.ofNat i))])) t
      refine XS.icmpNo X0.here hx rfl (hb hby d4_15) rfl (tlt (hi)).2.1 ?_
      show Steps p.tables e below (s₁.setTop (mkF m 18 #[.val (.ref a0), .val (.ref a1), .val (.int (Int32.ofNat j)), .val (.ref a0), .val (.int na), .val (.int (Int32.ofNat i)), .val (.int z)] [])) t
      refine XS.aloadN X0.here hx rfl (hb hby d4_18) rfl rfl ?_
      show Steps p.tables e below (s₁.setTop (mkF m 19 #[.val (.ref a0), .val (.ref a1), .val (.int (Int32.ofNat j)), .val (.ref a0), .val (.int na), .val (.int (Int32.ofNat i)), .val (.int z)] [(.ref a0)])) t
      refine XS.iload X0.here hx rfl (hb hby d4_19) rfl ?_
      show Steps p.tables e below (s₁.setTop (mkF m 21 #[.val (.ref a0), .val (.ref a1), .val (.int (Int32.ofNat j)), .val (.ref a0), .val (.int na), .val (.int (Int32.ofNat i)), .val (.int z)] [(.int (Int32.ofNat i)), (.ref a0)])) t
      exact k
    refine SGo.go (T' := s₁) (g' := (mkF m 22 #[.val (.ref a0), .val (.ref a1), .val (.int (Int32.ofNat j)), .val (.ref a0), .val (.int na), .val (.int (Int32.ofNat i)), .val (.int z)] [(.int x)])) (fun t k => ?_) ?_
    · refine X0.iaload hx (j := (Int32.ofNat i)) (v := (.int x)) (by rw [e0]; exact Ar0.1) (State.isArrayOf_alike hZ.alike Ar0.2.1) Ar0.2.2 (own_read S0 hna lx H0 hx0).1 (own_read S0 hna lx H0 hx0).2 (g := (mkF m 21 #[.val (.ref a0), .val (.ref a1), .val (.int (Int32.ofNat j)), .val (.ref a0), .val (.int na), .val (.int (Int32.ofNat i)), .val (.int z)] [(.int (Int32.ofNat i)), (.ref a0)])) rfl rfl (hb hby d4_21) _ ?_
      exact k
    refine SGo.go (T' := s₁) (g' := (mkF m 24 #[.val (.ref a0), .val (.ref a1), .val (.int (Int32.ofNat j)), .val (.ref a0), .val (.int na), .val (.int (Int32.ofNat i)), .val (.int x)] [])) (fun t k => ?_) ?_
    · show Steps p.tables e below (s₁.setTop (mkF m 22 #[.val (.ref a0), .val (.ref a1), .val (.int (Int32.ofNat j)), .val (.ref a0), .val (.int na), .val (.int (Int32.ofNat i)), .val (.int z)] [(.int x)])) t
      refine XS.istore X0.here hx rfl (hb hby d4_22) rfl (l' := #[.val (.ref a0), .val (.ref a1), .val (.int (Int32.ofNat j)), .val (.ref a0), .val (.int na), .val (.int (Int32.ofNat i)), .val (.int x)]) rfl ?_
      show Steps p.tables e below (s₁.setTop (mkF m 24 #[.val (.ref a0), .val (.ref a1), .val (.int (Int32.ofNat j)), .val (.ref a0), .val (.int na), .val (.int (Int32.ofNat i)), .val (.int x)] [])) t
      exact k
    exact k
  have sgXv : ∀ (i j : Nat) (z : Int32) (hi : ¬ ((Int32.ofNat i) < na)), Goes p e below s₁ (mkF m 11 #[.val (.ref a0), .val (.ref a1), .val (.int (Int32.ofNat j)), .val (.ref a0), .val (.int na), .val (.int (Int32.ofNat i)), .val (.int z)] []) s₁ (mkF m 66 #[.val (.ref a0), .val (.ref a1), .val (.int (Int32.ofNat j)), .val (.ref a0), .val (.int na), .val (.int (Int32.ofNat i)), .val (.int z)] []) := by
    intro i j z hi t k
    refine SGo.go (T' := s₁) (g' := (mkF m 66 #[.val (.ref a0), .val (.ref a1), .val (.int (Int32.ofNat j)), .val (.ref a0), .val (.int na), .val (.int (Int32.ofNat i)), .val (.int z)] [])) (fun t k => ?_) ?_
    · show Steps p.tables e below (s₁.setTop (mkF m 11 #[.val (.ref a0), .val (.ref a1), .val (.int (Int32.ofNat j)), .val (.ref a0), .val (.int na), .val (.int (Int32.ofNat i)), .val (.int z)] [])) t
      refine XS.iload X0.here hx rfl (hb hby d4_11) rfl ?_
      show Steps p.tables e below (s₁.setTop (mkF m 13 #[.val (.ref a0), .val (.ref a1), .val (.int (Int32.ofNat j)), .val (.ref a0), .val (.int na), .val (.int (Int32.ofNat i)), .val (.int z)] [(.int (Int32.ofNat i))])) t
      refine XS.iload X0.here hx rfl (hb hby d4_13) rfl ?_
      show Steps p.tables e below (s₁.setTop (mkF m 15 #[.val (.ref a0), .val (.ref a1), .val (.int (Int32.ofNat j)), .val (.ref a0), .val (.int na), .val (.int (Int32.ofNat i)), .val (.int z)] [(.int na), (.int (Int32.ofNat i))])) t
      refine XS.icmpYes X0.here hx rfl (pc0 := 15) (pc' := 66) rfl (hb hby d4_15) rfl (flt (hi)).2.1 (by decide) (by decide) ?_
      show Steps p.tables e below (s₁.setTop (mkF m 66 #[.val (.ref a0), .val (.ref a1), .val (.int (Int32.ofNat j)), .val (.ref a0), .val (.int na), .val (.int (Int32.ofNat i)), .val (.int z)] [])) t
      exact k
    exact k
  have sgB1 : ∀ (i j : Nat) (x y : Int32) (hy0 : ys[j]? = some y) (hj : (Int32.ofNat j) < nb) (hc : y < x), Goes p e below s₁ (mkF m 24 #[.val (.ref a0), .val (.ref a1), .val (.int (Int32.ofNat j)), .val (.ref a0), .val (.int na), .val (.int (Int32.ofNat i)), .val (.int x)] []) s₁ (mkF m 24 #[.val (.ref a0), .val (.ref a1), .val (.int ((Int32.ofNat j) + (1 : Int32))), .val (.ref a0), .val (.int na), .val (.int (Int32.ofNat i)), .val (.int x)] []) := by
    intro i j x y hy0 hj hc t k
    refine SGo.go (T' := s₁) (g' := (mkF m 26 #[.val (.ref a0), .val (.ref a1), .val (.int (Int32.ofNat j)), .val (.ref a0), .val (.int na), .val (.int (Int32.ofNat i)), .val (.int x)] [(.ref a1), (.int (Int32.ofNat j))])) (fun t k => ?_) ?_
    · show Steps p.tables e below (s₁.setTop (mkF m 24 #[.val (.ref a0), .val (.ref a1), .val (.int (Int32.ofNat j)), .val (.ref a0), .val (.int na), .val (.int (Int32.ofNat i)), .val (.int x)] [])) t
      refine XS.iloadN X0.here hx rfl (hb hby d4_24) rfl ?_
      show Steps p.tables e below (s₁.setTop (mkF m 25 #[.val (.ref a0), .val (.ref a1), .val (.int (Int32.ofNat j)), .val (.ref a0), .val (.int na), .val (.int (Int32.ofNat i)), .val (.int x)] [(.int (Int32.ofNat j))])) t
      refine XS.aloadN X0.here hx rfl (hb hby d4_25) rfl rfl ?_
      show Steps p.tables e below (s₁.setTop (mkF m 26 #[.val (.ref a0), .val (.ref a1), .val (.int (Int32.ofNat j)), .val (.ref a0), .val (.int na), .val (.int (Int32.ofNat i)), .val (.int x)] [(.ref a1), (.int (Int32.ofNat j))])) t
      exact k
    refine SGo.go (T' := s₁) (g' := (mkF m 27 #[.val (.ref a0), .val (.ref a1), .val (.int (Int32.ofNat j)), .val (.ref a0), .val (.int na), .val (.int (Int32.ofNat i)), .val (.int x)] [(.int nb), (.int (Int32.ofNat j))])) (fun t k => ?_) ?_
    · refine X0.arraylength hx (by rw [e0]; exact Ar1.1) (State.isArrayOf_alike hZ.alike Ar1.2.1) (g := (mkF m 26 #[.val (.ref a0), .val (.ref a1), .val (.int (Int32.ofNat j)), .val (.ref a0), .val (.int na), .val (.int (Int32.ofNat i)), .val (.int x)] [(.ref a1), (.int (Int32.ofNat j))])) rfl rfl (hb hby d4_26) _ ?_
      rw [len_of S1 M1]
      exact k
    refine SGo.go (T' := s₁) (g' := (mkF m 32 #[.val (.ref a0), .val (.ref a1), .val (.int (Int32.ofNat j)), .val (.ref a0), .val (.int na), .val (.int (Int32.ofNat i)), .val (.int x)] [(.int (Int32.ofNat j)), (.ref a1)])) (fun t k => ?_) ?_
    · show Steps p.tables e below (s₁.setTop (mkF m 27 #[.val (.ref a0), .val (.ref a1), .val (.int (Int32.ofNat j)), .val (.ref a0), .val (.int na), .val (.int (Int32.ofNat i)), .val (.int x)] [(.int nb), (.int (Int32.ofNat j))])) t
      refine XS.icmpNo X0.here hx rfl (hb hby d4_27) rfl (tlt (hj)).2.1 ?_
      show Steps p.tables e below (s₁.setTop (mkF m 30 #[.val (.ref a0), .val (.ref a1), .val (.int (Int32.ofNat j)), .val (.ref a0), .val (.int na), .val (.int (Int32.ofNat i)), .val (.int x)] [])) t
      refine XS.aloadN X0.here hx rfl (hb hby d4_30) rfl rfl ?_
      show Steps p.tables e below (s₁.setTop (mkF m 31 #[.val (.ref a0), .val (.ref a1), .val (.int (Int32.ofNat j)), .val (.ref a0), .val (.int na), .val (.int (Int32.ofNat i)), .val (.int x)] [(.ref a1)])) t
      refine XS.iloadN X0.here hx rfl (hb hby d4_31) rfl ?_
      show Steps p.tables e below (s₁.setTop (mkF m 32 #[.val (.ref a0), .val (.ref a1), .val (.int (Int32.ofNat j)), .val (.ref a0), .val (.int na), .val (.int (Int32.ofNat i)), .val (.int x)] [(.int (Int32.ofNat j)), (.ref a1)])) t
      exact k
    refine SGo.go (T' := s₁) (g' := (mkF m 33 #[.val (.ref a0), .val (.ref a1), .val (.int (Int32.ofNat j)), .val (.ref a0), .val (.int na), .val (.int (Int32.ofNat i)), .val (.int x)] [(.int y)])) (fun t k => ?_) ?_
    · refine X0.iaload hx (j := (Int32.ofNat j)) (v := (.int y)) (by rw [e0]; exact Ar1.1) (State.isArrayOf_alike hZ.alike Ar1.2.1) Ar1.2.2 (own_read S1 hnb ly H1 hy0).1 (own_read S1 hnb ly H1 hy0).2 (g := (mkF m 32 #[.val (.ref a0), .val (.ref a1), .val (.int (Int32.ofNat j)), .val (.ref a0), .val (.int na), .val (.int (Int32.ofNat i)), .val (.int x)] [(.int (Int32.ofNat j)), (.ref a1)])) rfl rfl (hb hby d4_32) _ ?_
      exact k
    refine SGo.go (T' := s₁) (g' := (mkF m 24 #[.val (.ref a0), .val (.ref a1), .val (.int ((Int32.ofNat j) + (1 : Int32))), .val (.ref a0), .val (.int na), .val (.int (Int32.ofNat i)), .val (.int x)] [])) (fun t k => ?_) ?_
    · show Steps p.tables e below (s₁.setTop (mkF m 33 #[.val (.ref a0), .val (.ref a1), .val (.int (Int32.ofNat j)), .val (.ref a0), .val (.int na), .val (.int (Int32.ofNat i)), .val (.int x)] [(.int y)])) t
      refine XS.iload X0.here hx rfl (hb hby d4_33) rfl ?_
      show Steps p.tables e below (s₁.setTop (mkF m 35 #[.val (.ref a0), .val (.ref a1), .val (.int (Int32.ofNat j)), .val (.ref a0), .val (.int na), .val (.int (Int32.ofNat i)), .val (.int x)] [(.int x), (.int y)])) t
      refine XS.icmpNo X0.here hx rfl (hb hby d4_35) rfl (tlt (hc)).2.1 ?_
      show Steps p.tables e below (s₁.setTop (mkF m 38 #[.val (.ref a0), .val (.ref a1), .val (.int (Int32.ofNat j)), .val (.ref a0), .val (.int na), .val (.int (Int32.ofNat i)), .val (.int x)] [])) t
      refine XS.iinc X0.here hx rfl (hb hby d4_38) rfl (l' := #[.val (.ref a0), .val (.ref a1), .val (.int ((Int32.ofNat j) + (1 : Int32))), .val (.ref a0), .val (.int na), .val (.int (Int32.ofNat i)), .val (.int x)]) rfl ?_
      show Steps p.tables e below (s₁.setTop (mkF m 41 #[.val (.ref a0), .val (.ref a1), .val (.int ((Int32.ofNat j) + (1 : Int32))), .val (.ref a0), .val (.int na), .val (.int (Int32.ofNat i)), .val (.int x)] [])) t
      refine XS.goto X0.here hx rfl (pc0 := 41) (pc' := 24) rfl (hb hby d4_41) (by decide) (by decide) ?_
      show Steps p.tables e below (s₁.setTop (mkF m 24 #[.val (.ref a0), .val (.ref a1), .val (.int ((Int32.ofNat j) + (1 : Int32))), .val (.ref a0), .val (.int na), .val (.int (Int32.ofNat i)), .val (.int x)] [])) t
      exact k
    exact k
  have sgB2 : ∀ (i j : Nat) (x : Int32) (hj : ¬ ((Int32.ofNat j) < nb)), Goes p e below s₁ (mkF m 24 #[.val (.ref a0), .val (.ref a1), .val (.int (Int32.ofNat j)), .val (.ref a0), .val (.int na), .val (.int (Int32.ofNat i)), .val (.int x)] []) s₁ (mkF m 44 #[.val (.ref a0), .val (.ref a1), .val (.int (Int32.ofNat j)), .val (.ref a0), .val (.int na), .val (.int (Int32.ofNat i)), .val (.int x)] []) := by
    intro i j x hj t k
    refine SGo.go (T' := s₁) (g' := (mkF m 26 #[.val (.ref a0), .val (.ref a1), .val (.int (Int32.ofNat j)), .val (.ref a0), .val (.int na), .val (.int (Int32.ofNat i)), .val (.int x)] [(.ref a1), (.int (Int32.ofNat j))])) (fun t k => ?_) ?_
    · show Steps p.tables e below (s₁.setTop (mkF m 24 #[.val (.ref a0), .val (.ref a1), .val (.int (Int32.ofNat j)), .val (.ref a0), .val (.int na), .val (.int (Int32.ofNat i)), .val (.int x)] [])) t
      refine XS.iloadN X0.here hx rfl (hb hby d4_24) rfl ?_
      show Steps p.tables e below (s₁.setTop (mkF m 25 #[.val (.ref a0), .val (.ref a1), .val (.int (Int32.ofNat j)), .val (.ref a0), .val (.int na), .val (.int (Int32.ofNat i)), .val (.int x)] [(.int (Int32.ofNat j))])) t
      refine XS.aloadN X0.here hx rfl (hb hby d4_25) rfl rfl ?_
      show Steps p.tables e below (s₁.setTop (mkF m 26 #[.val (.ref a0), .val (.ref a1), .val (.int (Int32.ofNat j)), .val (.ref a0), .val (.int na), .val (.int (Int32.ofNat i)), .val (.int x)] [(.ref a1), (.int (Int32.ofNat j))])) t
      exact k
    refine SGo.go (T' := s₁) (g' := (mkF m 27 #[.val (.ref a0), .val (.ref a1), .val (.int (Int32.ofNat j)), .val (.ref a0), .val (.int na), .val (.int (Int32.ofNat i)), .val (.int x)] [(.int nb), (.int (Int32.ofNat j))])) (fun t k => ?_) ?_
    · refine X0.arraylength hx (by rw [e0]; exact Ar1.1) (State.isArrayOf_alike hZ.alike Ar1.2.1) (g := (mkF m 26 #[.val (.ref a0), .val (.ref a1), .val (.int (Int32.ofNat j)), .val (.ref a0), .val (.int na), .val (.int (Int32.ofNat i)), .val (.int x)] [(.ref a1), (.int (Int32.ofNat j))])) rfl rfl (hb hby d4_26) _ ?_
      rw [len_of S1 M1]
      exact k
    refine SGo.go (T' := s₁) (g' := (mkF m 44 #[.val (.ref a0), .val (.ref a1), .val (.int (Int32.ofNat j)), .val (.ref a0), .val (.int na), .val (.int (Int32.ofNat i)), .val (.int x)] [])) (fun t k => ?_) ?_
    · show Steps p.tables e below (s₁.setTop (mkF m 27 #[.val (.ref a0), .val (.ref a1), .val (.int (Int32.ofNat j)), .val (.ref a0), .val (.int na), .val (.int (Int32.ofNat i)), .val (.int x)] [(.int nb), (.int (Int32.ofNat j))])) t
      refine XS.icmpYes X0.here hx rfl (pc0 := 27) (pc' := 44) rfl (hb hby d4_27) rfl (flt (hj)).2.1 (by decide) (by decide) ?_
      show Steps p.tables e below (s₁.setTop (mkF m 44 #[.val (.ref a0), .val (.ref a1), .val (.int (Int32.ofNat j)), .val (.ref a0), .val (.int na), .val (.int (Int32.ofNat i)), .val (.int x)] [])) t
      exact k
    exact k
  have sgB3 : ∀ (i j : Nat) (x y : Int32) (hy0 : ys[j]? = some y) (hj : (Int32.ofNat j) < nb) (hc : ¬ (y < x)), Goes p e below s₁ (mkF m 24 #[.val (.ref a0), .val (.ref a1), .val (.int (Int32.ofNat j)), .val (.ref a0), .val (.int na), .val (.int (Int32.ofNat i)), .val (.int x)] []) s₁ (mkF m 44 #[.val (.ref a0), .val (.ref a1), .val (.int (Int32.ofNat j)), .val (.ref a0), .val (.int na), .val (.int (Int32.ofNat i)), .val (.int x)] []) := by
    intro i j x y hy0 hj hc t k
    refine SGo.go (T' := s₁) (g' := (mkF m 26 #[.val (.ref a0), .val (.ref a1), .val (.int (Int32.ofNat j)), .val (.ref a0), .val (.int na), .val (.int (Int32.ofNat i)), .val (.int x)] [(.ref a1), (.int (Int32.ofNat j))])) (fun t k => ?_) ?_
    · show Steps p.tables e below (s₁.setTop (mkF m 24 #[.val (.ref a0), .val (.ref a1), .val (.int (Int32.ofNat j)), .val (.ref a0), .val (.int na), .val (.int (Int32.ofNat i)), .val (.int x)] [])) t
      refine XS.iloadN X0.here hx rfl (hb hby d4_24) rfl ?_
      show Steps p.tables e below (s₁.setTop (mkF m 25 #[.val (.ref a0), .val (.ref a1), .val (.int (Int32.ofNat j)), .val (.ref a0), .val (.int na), .val (.int (Int32.ofNat i)), .val (.int x)] [(.int (Int32.ofNat j))])) t
      refine XS.aloadN X0.here hx rfl (hb hby d4_25) rfl rfl ?_
      show Steps p.tables e below (s₁.setTop (mkF m 26 #[.val (.ref a0), .val (.ref a1), .val (.int (Int32.ofNat j)), .val (.ref a0), .val (.int na), .val (.int (Int32.ofNat i)), .val (.int x)] [(.ref a1), (.int (Int32.ofNat j))])) t
      exact k
    refine SGo.go (T' := s₁) (g' := (mkF m 27 #[.val (.ref a0), .val (.ref a1), .val (.int (Int32.ofNat j)), .val (.ref a0), .val (.int na), .val (.int (Int32.ofNat i)), .val (.int x)] [(.int nb), (.int (Int32.ofNat j))])) (fun t k => ?_) ?_
    · refine X0.arraylength hx (by rw [e0]; exact Ar1.1) (State.isArrayOf_alike hZ.alike Ar1.2.1) (g := (mkF m 26 #[.val (.ref a0), .val (.ref a1), .val (.int (Int32.ofNat j)), .val (.ref a0), .val (.int na), .val (.int (Int32.ofNat i)), .val (.int x)] [(.ref a1), (.int (Int32.ofNat j))])) rfl rfl (hb hby d4_26) _ ?_
      rw [len_of S1 M1]
      exact k
    refine SGo.go (T' := s₁) (g' := (mkF m 32 #[.val (.ref a0), .val (.ref a1), .val (.int (Int32.ofNat j)), .val (.ref a0), .val (.int na), .val (.int (Int32.ofNat i)), .val (.int x)] [(.int (Int32.ofNat j)), (.ref a1)])) (fun t k => ?_) ?_
    · show Steps p.tables e below (s₁.setTop (mkF m 27 #[.val (.ref a0), .val (.ref a1), .val (.int (Int32.ofNat j)), .val (.ref a0), .val (.int na), .val (.int (Int32.ofNat i)), .val (.int x)] [(.int nb), (.int (Int32.ofNat j))])) t
      refine XS.icmpNo X0.here hx rfl (hb hby d4_27) rfl (tlt (hj)).2.1 ?_
      show Steps p.tables e below (s₁.setTop (mkF m 30 #[.val (.ref a0), .val (.ref a1), .val (.int (Int32.ofNat j)), .val (.ref a0), .val (.int na), .val (.int (Int32.ofNat i)), .val (.int x)] [])) t
      refine XS.aloadN X0.here hx rfl (hb hby d4_30) rfl rfl ?_
      show Steps p.tables e below (s₁.setTop (mkF m 31 #[.val (.ref a0), .val (.ref a1), .val (.int (Int32.ofNat j)), .val (.ref a0), .val (.int na), .val (.int (Int32.ofNat i)), .val (.int x)] [(.ref a1)])) t
      refine XS.iloadN X0.here hx rfl (hb hby d4_31) rfl ?_
      show Steps p.tables e below (s₁.setTop (mkF m 32 #[.val (.ref a0), .val (.ref a1), .val (.int (Int32.ofNat j)), .val (.ref a0), .val (.int na), .val (.int (Int32.ofNat i)), .val (.int x)] [(.int (Int32.ofNat j)), (.ref a1)])) t
      exact k
    refine SGo.go (T' := s₁) (g' := (mkF m 33 #[.val (.ref a0), .val (.ref a1), .val (.int (Int32.ofNat j)), .val (.ref a0), .val (.int na), .val (.int (Int32.ofNat i)), .val (.int x)] [(.int y)])) (fun t k => ?_) ?_
    · refine X0.iaload hx (j := (Int32.ofNat j)) (v := (.int y)) (by rw [e0]; exact Ar1.1) (State.isArrayOf_alike hZ.alike Ar1.2.1) Ar1.2.2 (own_read S1 hnb ly H1 hy0).1 (own_read S1 hnb ly H1 hy0).2 (g := (mkF m 32 #[.val (.ref a0), .val (.ref a1), .val (.int (Int32.ofNat j)), .val (.ref a0), .val (.int na), .val (.int (Int32.ofNat i)), .val (.int x)] [(.int (Int32.ofNat j)), (.ref a1)])) rfl rfl (hb hby d4_32) _ ?_
      exact k
    refine SGo.go (T' := s₁) (g' := (mkF m 44 #[.val (.ref a0), .val (.ref a1), .val (.int (Int32.ofNat j)), .val (.ref a0), .val (.int na), .val (.int (Int32.ofNat i)), .val (.int x)] [])) (fun t k => ?_) ?_
    · show Steps p.tables e below (s₁.setTop (mkF m 33 #[.val (.ref a0), .val (.ref a1), .val (.int (Int32.ofNat j)), .val (.ref a0), .val (.int na), .val (.int (Int32.ofNat i)), .val (.int x)] [(.int y)])) t
      refine XS.iload X0.here hx rfl (hb hby d4_33) rfl ?_
      show Steps p.tables e below (s₁.setTop (mkF m 35 #[.val (.ref a0), .val (.ref a1), .val (.int (Int32.ofNat j)), .val (.ref a0), .val (.int na), .val (.int (Int32.ofNat i)), .val (.int x)] [(.int x), (.int y)])) t
      refine XS.icmpYes X0.here hx rfl (pc0 := 35) (pc' := 44) rfl (hb hby d4_35) rfl (flt (hc)).2.1 (by decide) (by decide) ?_
      show Steps p.tables e below (s₁.setTop (mkF m 44 #[.val (.ref a0), .val (.ref a1), .val (.int (Int32.ofNat j)), .val (.ref a0), .val (.int na), .val (.int (Int32.ofNat i)), .val (.int x)] [])) t
      exact k
    exact k
  have sgC1 : ∀ (i j : Nat) (x : Int32) (hj : (Int32.ofNat j) = nb), Goes p e below s₁ (mkF m 44 #[.val (.ref a0), .val (.ref a1), .val (.int (Int32.ofNat j)), .val (.ref a0), .val (.int na), .val (.int (Int32.ofNat i)), .val (.int x)] []) s₁ (mkF m 58 #[.val (.ref a0), .val (.ref a1), .val (.int (Int32.ofNat j)), .val (.ref a0), .val (.int na), .val (.int (Int32.ofNat i)), .val (.int x)] []) := by
    intro i j x hj t k
    refine SGo.go (T' := s₁) (g' := (mkF m 46 #[.val (.ref a0), .val (.ref a1), .val (.int (Int32.ofNat j)), .val (.ref a0), .val (.int na), .val (.int (Int32.ofNat i)), .val (.int x)] [(.ref a1), (.int (Int32.ofNat j))])) (fun t k => ?_) ?_
    · show Steps p.tables e below (s₁.setTop (mkF m 44 #[.val (.ref a0), .val (.ref a1), .val (.int (Int32.ofNat j)), .val (.ref a0), .val (.int na), .val (.int (Int32.ofNat i)), .val (.int x)] [])) t
      refine XS.iloadN X0.here hx rfl (hb hby d4_44) rfl ?_
      show Steps p.tables e below (s₁.setTop (mkF m 45 #[.val (.ref a0), .val (.ref a1), .val (.int (Int32.ofNat j)), .val (.ref a0), .val (.int na), .val (.int (Int32.ofNat i)), .val (.int x)] [(.int (Int32.ofNat j))])) t
      refine XS.aloadN X0.here hx rfl (hb hby d4_45) rfl rfl ?_
      show Steps p.tables e below (s₁.setTop (mkF m 46 #[.val (.ref a0), .val (.ref a1), .val (.int (Int32.ofNat j)), .val (.ref a0), .val (.int na), .val (.int (Int32.ofNat i)), .val (.int x)] [(.ref a1), (.int (Int32.ofNat j))])) t
      exact k
    refine SGo.go (T' := s₁) (g' := (mkF m 47 #[.val (.ref a0), .val (.ref a1), .val (.int (Int32.ofNat j)), .val (.ref a0), .val (.int na), .val (.int (Int32.ofNat i)), .val (.int x)] [(.int nb), (.int (Int32.ofNat j))])) (fun t k => ?_) ?_
    · refine X0.arraylength hx (by rw [e0]; exact Ar1.1) (State.isArrayOf_alike hZ.alike Ar1.2.1) (g := (mkF m 46 #[.val (.ref a0), .val (.ref a1), .val (.int (Int32.ofNat j)), .val (.ref a0), .val (.int na), .val (.int (Int32.ofNat i)), .val (.int x)] [(.ref a1), (.int (Int32.ofNat j))])) rfl rfl (hb hby d4_46) _ ?_
      rw [len_of S1 M1]
      exact k
    refine SGo.go (T' := s₁) (g' := (mkF m 58 #[.val (.ref a0), .val (.ref a1), .val (.int (Int32.ofNat j)), .val (.ref a0), .val (.int na), .val (.int (Int32.ofNat i)), .val (.int x)] [])) (fun t k => ?_) ?_
    · show Steps p.tables e below (s₁.setTop (mkF m 47 #[.val (.ref a0), .val (.ref a1), .val (.int (Int32.ofNat j)), .val (.ref a0), .val (.int na), .val (.int (Int32.ofNat i)), .val (.int x)] [(.int nb), (.int (Int32.ofNat j))])) t
      refine XS.icmpYes X0.here hx rfl (pc0 := 47) (pc' := 58) rfl (hb hby d4_47) rfl (teq (hj)).1 (by decide) (by decide) ?_
      show Steps p.tables e below (s₁.setTop (mkF m 58 #[.val (.ref a0), .val (.ref a1), .val (.int (Int32.ofNat j)), .val (.ref a0), .val (.int na), .val (.int (Int32.ofNat i)), .val (.int x)] [])) t
      exact k
    exact k
  have sgC2 : ∀ (i j : Nat) (x y : Int32) (hy0 : ys[j]? = some y) (hj : ¬ ((Int32.ofNat j) = nb)) (hc : ¬ (y = x)), Goes p e below s₁ (mkF m 44 #[.val (.ref a0), .val (.ref a1), .val (.int (Int32.ofNat j)), .val (.ref a0), .val (.int na), .val (.int (Int32.ofNat i)), .val (.int x)] []) s₁ (mkF m 58 #[.val (.ref a0), .val (.ref a1), .val (.int (Int32.ofNat j)), .val (.ref a0), .val (.int na), .val (.int (Int32.ofNat i)), .val (.int x)] []) := by
    intro i j x y hy0 hj hc t k
    refine SGo.go (T' := s₁) (g' := (mkF m 46 #[.val (.ref a0), .val (.ref a1), .val (.int (Int32.ofNat j)), .val (.ref a0), .val (.int na), .val (.int (Int32.ofNat i)), .val (.int x)] [(.ref a1), (.int (Int32.ofNat j))])) (fun t k => ?_) ?_
    · show Steps p.tables e below (s₁.setTop (mkF m 44 #[.val (.ref a0), .val (.ref a1), .val (.int (Int32.ofNat j)), .val (.ref a0), .val (.int na), .val (.int (Int32.ofNat i)), .val (.int x)] [])) t
      refine XS.iloadN X0.here hx rfl (hb hby d4_44) rfl ?_
      show Steps p.tables e below (s₁.setTop (mkF m 45 #[.val (.ref a0), .val (.ref a1), .val (.int (Int32.ofNat j)), .val (.ref a0), .val (.int na), .val (.int (Int32.ofNat i)), .val (.int x)] [(.int (Int32.ofNat j))])) t
      refine XS.aloadN X0.here hx rfl (hb hby d4_45) rfl rfl ?_
      show Steps p.tables e below (s₁.setTop (mkF m 46 #[.val (.ref a0), .val (.ref a1), .val (.int (Int32.ofNat j)), .val (.ref a0), .val (.int na), .val (.int (Int32.ofNat i)), .val (.int x)] [(.ref a1), (.int (Int32.ofNat j))])) t
      exact k
    refine SGo.go (T' := s₁) (g' := (mkF m 47 #[.val (.ref a0), .val (.ref a1), .val (.int (Int32.ofNat j)), .val (.ref a0), .val (.int na), .val (.int (Int32.ofNat i)), .val (.int x)] [(.int nb), (.int (Int32.ofNat j))])) (fun t k => ?_) ?_
    · refine X0.arraylength hx (by rw [e0]; exact Ar1.1) (State.isArrayOf_alike hZ.alike Ar1.2.1) (g := (mkF m 46 #[.val (.ref a0), .val (.ref a1), .val (.int (Int32.ofNat j)), .val (.ref a0), .val (.int na), .val (.int (Int32.ofNat i)), .val (.int x)] [(.ref a1), (.int (Int32.ofNat j))])) rfl rfl (hb hby d4_46) _ ?_
      rw [len_of S1 M1]
      exact k
    refine SGo.go (T' := s₁) (g' := (mkF m 52 #[.val (.ref a0), .val (.ref a1), .val (.int (Int32.ofNat j)), .val (.ref a0), .val (.int na), .val (.int (Int32.ofNat i)), .val (.int x)] [(.int (Int32.ofNat j)), (.ref a1)])) (fun t k => ?_) ?_
    · show Steps p.tables e below (s₁.setTop (mkF m 47 #[.val (.ref a0), .val (.ref a1), .val (.int (Int32.ofNat j)), .val (.ref a0), .val (.int na), .val (.int (Int32.ofNat i)), .val (.int x)] [(.int nb), (.int (Int32.ofNat j))])) t
      refine XS.icmpNo X0.here hx rfl (hb hby d4_47) rfl (feq (hj)).1 ?_
      show Steps p.tables e below (s₁.setTop (mkF m 50 #[.val (.ref a0), .val (.ref a1), .val (.int (Int32.ofNat j)), .val (.ref a0), .val (.int na), .val (.int (Int32.ofNat i)), .val (.int x)] [])) t
      refine XS.aloadN X0.here hx rfl (hb hby d4_50) rfl rfl ?_
      show Steps p.tables e below (s₁.setTop (mkF m 51 #[.val (.ref a0), .val (.ref a1), .val (.int (Int32.ofNat j)), .val (.ref a0), .val (.int na), .val (.int (Int32.ofNat i)), .val (.int x)] [(.ref a1)])) t
      refine XS.iloadN X0.here hx rfl (hb hby d4_51) rfl ?_
      show Steps p.tables e below (s₁.setTop (mkF m 52 #[.val (.ref a0), .val (.ref a1), .val (.int (Int32.ofNat j)), .val (.ref a0), .val (.int na), .val (.int (Int32.ofNat i)), .val (.int x)] [(.int (Int32.ofNat j)), (.ref a1)])) t
      exact k
    refine SGo.go (T' := s₁) (g' := (mkF m 53 #[.val (.ref a0), .val (.ref a1), .val (.int (Int32.ofNat j)), .val (.ref a0), .val (.int na), .val (.int (Int32.ofNat i)), .val (.int x)] [(.int y)])) (fun t k => ?_) ?_
    · refine X0.iaload hx (j := (Int32.ofNat j)) (v := (.int y)) (by rw [e0]; exact Ar1.1) (State.isArrayOf_alike hZ.alike Ar1.2.1) Ar1.2.2 (own_read S1 hnb ly H1 hy0).1 (own_read S1 hnb ly H1 hy0).2 (g := (mkF m 52 #[.val (.ref a0), .val (.ref a1), .val (.int (Int32.ofNat j)), .val (.ref a0), .val (.int na), .val (.int (Int32.ofNat i)), .val (.int x)] [(.int (Int32.ofNat j)), (.ref a1)])) rfl rfl (hb hby d4_52) _ ?_
      exact k
    refine SGo.go (T' := s₁) (g' := (mkF m 58 #[.val (.ref a0), .val (.ref a1), .val (.int (Int32.ofNat j)), .val (.ref a0), .val (.int na), .val (.int (Int32.ofNat i)), .val (.int x)] [])) (fun t k => ?_) ?_
    · show Steps p.tables e below (s₁.setTop (mkF m 53 #[.val (.ref a0), .val (.ref a1), .val (.int (Int32.ofNat j)), .val (.ref a0), .val (.int na), .val (.int (Int32.ofNat i)), .val (.int x)] [(.int y)])) t
      refine XS.iload X0.here hx rfl (hb hby d4_53) rfl ?_
      show Steps p.tables e below (s₁.setTop (mkF m 55 #[.val (.ref a0), .val (.ref a1), .val (.int (Int32.ofNat j)), .val (.ref a0), .val (.int na), .val (.int (Int32.ofNat i)), .val (.int x)] [(.int x), (.int y)])) t
      refine XS.icmpNo X0.here hx rfl (hb hby d4_55) rfl (feq (hc)).1 ?_
      show Steps p.tables e below (s₁.setTop (mkF m 58 #[.val (.ref a0), .val (.ref a1), .val (.int (Int32.ofNat j)), .val (.ref a0), .val (.int na), .val (.int (Int32.ofNat i)), .val (.int x)] [])) t
      exact k
    exact k
  have sgC3 : ∀ (i j : Nat) (x y : Int32) (hy0 : ys[j]? = some y) (hj : ¬ ((Int32.ofNat j) = nb)) (hc : y = x), Goes p e below s₁ (mkF m 44 #[.val (.ref a0), .val (.ref a1), .val (.int (Int32.ofNat j)), .val (.ref a0), .val (.int na), .val (.int (Int32.ofNat i)), .val (.int x)] []) s₁ (mkF m 11 #[.val (.ref a0), .val (.ref a1), .val (.int (Int32.ofNat j)), .val (.ref a0), .val (.int na), .val (.int ((Int32.ofNat i) + (1 : Int32))), .val (.int x)] []) := by
    intro i j x y hy0 hj hc t k
    refine SGo.go (T' := s₁) (g' := (mkF m 46 #[.val (.ref a0), .val (.ref a1), .val (.int (Int32.ofNat j)), .val (.ref a0), .val (.int na), .val (.int (Int32.ofNat i)), .val (.int x)] [(.ref a1), (.int (Int32.ofNat j))])) (fun t k => ?_) ?_
    · show Steps p.tables e below (s₁.setTop (mkF m 44 #[.val (.ref a0), .val (.ref a1), .val (.int (Int32.ofNat j)), .val (.ref a0), .val (.int na), .val (.int (Int32.ofNat i)), .val (.int x)] [])) t
      refine XS.iloadN X0.here hx rfl (hb hby d4_44) rfl ?_
      show Steps p.tables e below (s₁.setTop (mkF m 45 #[.val (.ref a0), .val (.ref a1), .val (.int (Int32.ofNat j)), .val (.ref a0), .val (.int na), .val (.int (Int32.ofNat i)), .val (.int x)] [(.int (Int32.ofNat j))])) t
      refine XS.aloadN X0.here hx rfl (hb hby d4_45) rfl rfl ?_
      show Steps p.tables e below (s₁.setTop (mkF m 46 #[.val (.ref a0), .val (.ref a1), .val (.int (Int32.ofNat j)), .val (.ref a0), .val (.int na), .val (.int (Int32.ofNat i)), .val (.int x)] [(.ref a1), (.int (Int32.ofNat j))])) t
      exact k
    refine SGo.go (T' := s₁) (g' := (mkF m 47 #[.val (.ref a0), .val (.ref a1), .val (.int (Int32.ofNat j)), .val (.ref a0), .val (.int na), .val (.int (Int32.ofNat i)), .val (.int x)] [(.int nb), (.int (Int32.ofNat j))])) (fun t k => ?_) ?_
    · refine X0.arraylength hx (by rw [e0]; exact Ar1.1) (State.isArrayOf_alike hZ.alike Ar1.2.1) (g := (mkF m 46 #[.val (.ref a0), .val (.ref a1), .val (.int (Int32.ofNat j)), .val (.ref a0), .val (.int na), .val (.int (Int32.ofNat i)), .val (.int x)] [(.ref a1), (.int (Int32.ofNat j))])) rfl rfl (hb hby d4_46) _ ?_
      rw [len_of S1 M1]
      exact k
    refine SGo.go (T' := s₁) (g' := (mkF m 52 #[.val (.ref a0), .val (.ref a1), .val (.int (Int32.ofNat j)), .val (.ref a0), .val (.int na), .val (.int (Int32.ofNat i)), .val (.int x)] [(.int (Int32.ofNat j)), (.ref a1)])) (fun t k => ?_) ?_
    · show Steps p.tables e below (s₁.setTop (mkF m 47 #[.val (.ref a0), .val (.ref a1), .val (.int (Int32.ofNat j)), .val (.ref a0), .val (.int na), .val (.int (Int32.ofNat i)), .val (.int x)] [(.int nb), (.int (Int32.ofNat j))])) t
      refine XS.icmpNo X0.here hx rfl (hb hby d4_47) rfl (feq (hj)).1 ?_
      show Steps p.tables e below (s₁.setTop (mkF m 50 #[.val (.ref a0), .val (.ref a1), .val (.int (Int32.ofNat j)), .val (.ref a0), .val (.int na), .val (.int (Int32.ofNat i)), .val (.int x)] [])) t
      refine XS.aloadN X0.here hx rfl (hb hby d4_50) rfl rfl ?_
      show Steps p.tables e below (s₁.setTop (mkF m 51 #[.val (.ref a0), .val (.ref a1), .val (.int (Int32.ofNat j)), .val (.ref a0), .val (.int na), .val (.int (Int32.ofNat i)), .val (.int x)] [(.ref a1)])) t
      refine XS.iloadN X0.here hx rfl (hb hby d4_51) rfl ?_
      show Steps p.tables e below (s₁.setTop (mkF m 52 #[.val (.ref a0), .val (.ref a1), .val (.int (Int32.ofNat j)), .val (.ref a0), .val (.int na), .val (.int (Int32.ofNat i)), .val (.int x)] [(.int (Int32.ofNat j)), (.ref a1)])) t
      exact k
    refine SGo.go (T' := s₁) (g' := (mkF m 53 #[.val (.ref a0), .val (.ref a1), .val (.int (Int32.ofNat j)), .val (.ref a0), .val (.int na), .val (.int (Int32.ofNat i)), .val (.int x)] [(.int y)])) (fun t k => ?_) ?_
    · refine X0.iaload hx (j := (Int32.ofNat j)) (v := (.int y)) (by rw [e0]; exact Ar1.1) (State.isArrayOf_alike hZ.alike Ar1.2.1) Ar1.2.2 (own_read S1 hnb ly H1 hy0).1 (own_read S1 hnb ly H1 hy0).2 (g := (mkF m 52 #[.val (.ref a0), .val (.ref a1), .val (.int (Int32.ofNat j)), .val (.ref a0), .val (.int na), .val (.int (Int32.ofNat i)), .val (.int x)] [(.int (Int32.ofNat j)), (.ref a1)])) rfl rfl (hb hby d4_52) _ ?_
      exact k
    refine SGo.go (T' := s₁) (g' := (mkF m 11 #[.val (.ref a0), .val (.ref a1), .val (.int (Int32.ofNat j)), .val (.ref a0), .val (.int na), .val (.int ((Int32.ofNat i) + (1 : Int32))), .val (.int x)] [])) (fun t k => ?_) ?_
    · show Steps p.tables e below (s₁.setTop (mkF m 53 #[.val (.ref a0), .val (.ref a1), .val (.int (Int32.ofNat j)), .val (.ref a0), .val (.int na), .val (.int (Int32.ofNat i)), .val (.int x)] [(.int y)])) t
      refine XS.iload X0.here hx rfl (hb hby d4_53) rfl ?_
      show Steps p.tables e below (s₁.setTop (mkF m 55 #[.val (.ref a0), .val (.ref a1), .val (.int (Int32.ofNat j)), .val (.ref a0), .val (.int na), .val (.int (Int32.ofNat i)), .val (.int x)] [(.int x), (.int y)])) t
      refine XS.icmpYes X0.here hx rfl (pc0 := 55) (pc' := 60) rfl (hb hby d4_55) rfl (teq (hc)).1 (by decide) (by decide) ?_
      show Steps p.tables e below (s₁.setTop (mkF m 60 #[.val (.ref a0), .val (.ref a1), .val (.int (Int32.ofNat j)), .val (.ref a0), .val (.int na), .val (.int (Int32.ofNat i)), .val (.int x)] [])) t
      refine XS.iinc X0.here hx rfl (hb hby d4_60) rfl (l' := #[.val (.ref a0), .val (.ref a1), .val (.int (Int32.ofNat j)), .val (.ref a0), .val (.int na), .val (.int ((Int32.ofNat i) + (1 : Int32))), .val (.int x)]) rfl ?_
      show Steps p.tables e below (s₁.setTop (mkF m 63 #[.val (.ref a0), .val (.ref a1), .val (.int (Int32.ofNat j)), .val (.ref a0), .val (.int na), .val (.int ((Int32.ofNat i) + (1 : Int32))), .val (.int x)] [])) t
      refine XS.goto X0.here hx rfl (pc0 := 63) (pc' := 11) rfl (hb hby d4_63) (by decide) (by decide) ?_
      show Steps p.tables e below (s₁.setTop (mkF m 11 #[.val (.ref a0), .val (.ref a1), .val (.int (Int32.ofNat j)), .val (.ref a0), .val (.int na), .val (.int ((Int32.ofNat i) + (1 : Int32))), .val (.int x)] [])) t
      exact k
    exact k
  have sgR0 : ∀ (i j : Nat) (x : Int32), Goes p e below s₁ (mkF m 58 #[.val (.ref a0), .val (.ref a1), .val (.int (Int32.ofNat j)), .val (.ref a0), .val (.int na), .val (.int (Int32.ofNat i)), .val (.int x)] []) s₁ (mkF m 59 #[.val (.ref a0), .val (.ref a1), .val (.int (Int32.ofNat j)), .val (.ref a0), .val (.int na), .val (.int (Int32.ofNat i)), .val (.int x)] [(.int (0 : Int32))]) := by
    intro i j x t k
    refine SGo.go (T' := s₁) (g' := (mkF m 59 #[.val (.ref a0), .val (.ref a1), .val (.int (Int32.ofNat j)), .val (.ref a0), .val (.int na), .val (.int (Int32.ofNat i)), .val (.int x)] [(.int (0 : Int32))])) (fun t k => ?_) ?_
    · show Steps p.tables e below (s₁.setTop (mkF m 58 #[.val (.ref a0), .val (.ref a1), .val (.int (Int32.ofNat j)), .val (.ref a0), .val (.int na), .val (.int (Int32.ofNat i)), .val (.int x)] [])) t
      refine XS.iconst X0.here hx rfl (hb hby d4_58) ?_
      show Steps p.tables e below (s₁.setTop (mkF m 59 #[.val (.ref a0), .val (.ref a1), .val (.int (Int32.ofNat j)), .val (.ref a0), .val (.int na), .val (.int (Int32.ofNat i)), .val (.int x)] [(.int (0 : Int32))])) t
      exact k
    exact k
  have sgR1u : ∀ (i j : Nat), Goes p e below s₁ (mkF m 66 #[.val (.ref a0), .val (.ref a1), .val (.int (Int32.ofNat j)), .val (.ref a0), .val (.int na), .val (.int (Int32.ofNat i)), .unset] []) s₁ (mkF m 67 #[.val (.ref a0), .val (.ref a1), .val (.int (Int32.ofNat j)), .val (.ref a0), .val (.int na), .val (.int (Int32.ofNat i)), .unset] [(.int (1 : Int32))]) := by
    intro i j t k
    refine SGo.go (T' := s₁) (g' := (mkF m 67 #[.val (.ref a0), .val (.ref a1), .val (.int (Int32.ofNat j)), .val (.ref a0), .val (.int na), .val (.int (Int32.ofNat i)), .unset] [(.int (1 : Int32))])) (fun t k => ?_) ?_
    · show Steps p.tables e below (s₁.setTop (mkF m 66 #[.val (.ref a0), .val (.ref a1), .val (.int (Int32.ofNat j)), .val (.ref a0), .val (.int na), .val (.int (Int32.ofNat i)), .unset] [])) t
      refine XS.iconst X0.here hx rfl (hb hby d4_66) ?_
      show Steps p.tables e below (s₁.setTop (mkF m 67 #[.val (.ref a0), .val (.ref a1), .val (.int (Int32.ofNat j)), .val (.ref a0), .val (.int na), .val (.int (Int32.ofNat i)), .unset] [(.int (1 : Int32))])) t
      exact k
    exact k
  have sgR1v : ∀ (i j : Nat) (z : Int32), Goes p e below s₁ (mkF m 66 #[.val (.ref a0), .val (.ref a1), .val (.int (Int32.ofNat j)), .val (.ref a0), .val (.int na), .val (.int (Int32.ofNat i)), .val (.int z)] []) s₁ (mkF m 67 #[.val (.ref a0), .val (.ref a1), .val (.int (Int32.ofNat j)), .val (.ref a0), .val (.int na), .val (.int (Int32.ofNat i)), .val (.int z)] [(.int (1 : Int32))]) := by
    intro i j z t k
    refine SGo.go (T' := s₁) (g' := (mkF m 67 #[.val (.ref a0), .val (.ref a1), .val (.int (Int32.ofNat j)), .val (.ref a0), .val (.int na), .val (.int (Int32.ofNat i)), .val (.int z)] [(.int (1 : Int32))])) (fun t k => ?_) ?_
    · show Steps p.tables e below (s₁.setTop (mkF m 66 #[.val (.ref a0), .val (.ref a1), .val (.int (Int32.ofNat j)), .val (.ref a0), .val (.int na), .val (.int (Int32.ofNat i)), .val (.int z)] [])) t
      refine XS.iconst X0.here hx rfl (hb hby d4_66) ?_
      show Steps p.tables e below (s₁.setTop (mkF m 67 #[.val (.ref a0), .val (.ref a1), .val (.int (Int32.ofNat j)), .val (.ref a0), .val (.int na), .val (.int (Int32.ofNat i)), .val (.int z)] [(.int (1 : Int32))])) t
      exact k
    exact k
  have inner : ∀ (x : Int32) (i : Nat) (ys' : List Int32) (j : Nat), j ≤ ys.length → ys.drop j = ys' → ∃ j', j' ≤ ys.length ∧ ys.drop j' = wadv x ys' ∧ Goes p e below s₁ (mkF m 24 #[.val (.ref a0), .val (.ref a1), .val (.int (Int32.ofNat j)), .val (.ref a0), .val (.int na), .val (.int (Int32.ofNat i)), .val (.int x)] []) s₁ (mkF m 44 #[.val (.ref a0), .val (.ref a1), .val (.int (Int32.ofNat j')), .val (.ref a0), .val (.int na), .val (.int (Int32.ofNat i)), .val (.int x)] []) := by
    intro x i ys'
    induction ys' with
    | nil =>
      intro j hjl hj
      exact ⟨j, hjl, hj, sgB2 i j x (by rw [hnb]; exact own_ofge (own_lenge hj) (by omega))⟩
    | cons y r ih =>
      intro j hjl hj
      have hy0 := own_head hj
      have hlen := own_lenlt hj
      have hlt : (Int32.ofNat j) < nb := by rw [hnb]; exact own_oflt hlen ly
      by_cases h : y < x
      · obtain ⟨j', h0, h1, h2⟩ := ih (j + 1) hlen (own_tail hj)
        refine ⟨j', h0, by rw [wadv, if_pos h]; exact h1, fun t k => sgB1 i j x y hy0 hlt h t ?_⟩
        have q := h2 t k
        rw [inc_ofNat] at q
        exact q
      · exact ⟨j, Nat.le_of_lt hlen, by rw [wadv, if_neg h]; exact hj, sgB3 i j x y hy0 hlt h⟩
  have main : ∀ (xs' : List Int32) (x : Int32) (ys' : List Int32) (i j : Nat), xs.drop i = x :: xs' → j ≤ ys.length → ys.drop j = ys' → OEnd p e below s s₁ (mkF m 24 #[.val (.ref a0), .val (.ref a1), .val (.int (Int32.ofNat j)), .val (.ref a0), .val (.int na), .val (.int (Int32.ofNat i)), .val (.int x)] []) (fun v h L => v = some (.int (nar .boolean (wi (x :: xs') ys'))) ∧ Fr n0 L ∧ h = h0) 0 0 := by
    intro xs'
    induction xs' with
    | nil =>
      intro x ys' i j hi hjl hj
      have hi1 := own_tail hi
      have hil := own_lenlt hi
      obtain ⟨j', hl', hj', go⟩ := inner x i ys' j hjl hj
      refine OEnd.go go ?_
      have nx : ∀ (r : List Int32), ys.drop j' = r → OEnd p e below s s₁ (mkF m 11 #[.val (.ref a0), .val (.ref a1), .val (.int (Int32.ofNat j')), .val (.ref a0), .val (.int na), .val (.int (Int32.ofNat i + (1 : Int32))), .val (.int x)] []) (fun v h L => v = some (.int (nar .boolean (wi [] r))) ∧ Fr n0 L ∧ h = h0) 0 0 := by
        intro r hr
        rw [← inc_ofNat]
        refine OEnd.go (sgXv (i + 1) j' x (by rw [hna]; exact own_ofge (own_lenge hi1) (by omega))) ?_
        refine OEnd.go (sgR1v (i + 1) j' x) ?_
        exact OEnd.nar X0 hx (t := .boolean) Bd.returns (by simp) hlk (hb hby d4_67) ⟨by rw [wi], N0, e0⟩ (by decide) (by decide)
      cases hw2 : wadv x ys' with
      | nil =>
        rw [hw2] at hj'
        refine OEnd.go (sgC1 i j' x (by rw [hnb]; exact congrArg Int32.ofNat (Nat.le_antisymm hl' (own_lenge hj')))) ?_
        refine OEnd.go (sgR0 i j' x) ?_
        exact OEnd.nar X0 hx (t := .boolean) Bd.returns (by simp) hlk (hb hby d4_59) ⟨by rw [wi_cons, hw2], N0, e0⟩ (by decide) (by decide)
      | cons y r =>
        rw [hw2] at hj'
        have hy0 := own_head hj'
        have hlen := own_lenlt hj'
        have hlt : (Int32.ofNat j') < nb := by rw [hnb]; exact own_oflt hlen ly
        have hne : ¬ ((Int32.ofNat j') = nb) := fun q => by rw [q] at hlt; exact Int32.lt_irrefl hlt
        by_cases h1 : y = x
        · refine OEnd.go (sgC3 i j' x y hy0 hne h1) ?_
          have q := nx (y :: r) hj'
          rw [show wi (x :: []) ys' = wi [] (y :: r) from by rw [wi_cons, hw2]; exact if_pos h1]
          exact q
        · refine OEnd.go (sgC2 i j' x y hy0 hne h1) ?_
          refine OEnd.go (sgR0 i j' x) ?_
          exact OEnd.nar X0 hx (t := .boolean) Bd.returns (by simp) hlk (hb hby d4_59) ⟨by rw [show wi (x :: []) ys' = 0 from by rw [wi_cons, hw2]; exact if_neg h1], N0, e0⟩ (by decide) (by decide)
    | cons x2 r2 ih =>
      intro x ys' i j hi hjl hj
      have hi1 := own_tail hi
      have hil := own_lenlt hi
      obtain ⟨j', hl', hj', go⟩ := inner x i ys' j hjl hj
      refine OEnd.go go ?_
      have nx : ∀ (r : List Int32), ys.drop j' = r → OEnd p e below s s₁ (mkF m 11 #[.val (.ref a0), .val (.ref a1), .val (.int (Int32.ofNat j')), .val (.ref a0), .val (.int na), .val (.int (Int32.ofNat i + (1 : Int32))), .val (.int x)] []) (fun v h L => v = some (.int (nar .boolean (wi (x2 :: r2) r))) ∧ Fr n0 L ∧ h = h0) 0 0 := by
        intro r hr
        rw [← inc_ofNat]
        refine OEnd.go (sgAv (i + 1) j' x2 x (own_head hi1) (by rw [hna]; exact own_oflt (own_lenlt hi1) lx)) ?_
        exact ih x2 r (i + 1) j' hi1 hl' hr
      cases hw2 : wadv x ys' with
      | nil =>
        rw [hw2] at hj'
        refine OEnd.go (sgC1 i j' x (by rw [hnb]; exact congrArg Int32.ofNat (Nat.le_antisymm hl' (own_lenge hj')))) ?_
        refine OEnd.go (sgR0 i j' x) ?_
        exact OEnd.nar X0 hx (t := .boolean) Bd.returns (by simp) hlk (hb hby d4_59) ⟨by rw [wi_cons, hw2], N0, e0⟩ (by decide) (by decide)
      | cons y r =>
        rw [hw2] at hj'
        have hy0 := own_head hj'
        have hlen := own_lenlt hj'
        have hlt : (Int32.ofNat j') < nb := by rw [hnb]; exact own_oflt hlen ly
        have hne : ¬ ((Int32.ofNat j') = nb) := fun q => by rw [q] at hlt; exact Int32.lt_irrefl hlt
        by_cases h1 : y = x
        · refine OEnd.go (sgC3 i j' x y hy0 hne h1) ?_
          have q := nx (y :: r) hj'
          rw [show wi (x :: (x2 :: r2)) ys' = wi (x2 :: r2) (y :: r) from by rw [wi_cons, hw2]; exact if_pos h1]
          exact q
        · refine OEnd.go (sgC2 i j' x y hy0 hne h1) ?_
          refine OEnd.go (sgR0 i j' x) ?_
          exact OEnd.nar X0 hx (t := .boolean) Bd.returns (by simp) hlk (hb hby d4_59) ⟨by rw [show wi (x :: (x2 :: r2)) ys' = 0 from by rw [wi_cons, hw2]; exact if_neg h1], N0, e0⟩ (by decide) (by decide)
  refine OEnd.go (sgS ()) ?_
  cases hxs : xs with
  | nil =>
    subst hxs
    refine OEnd.go (sgXu 0 0 (by rw [hna]; decide)) ?_
    refine OEnd.go (sgR1u 0 0) ?_
    exact OEnd.nar X0 hx (t := .boolean) Bd.returns (by simp) hlk (hb hby d4_67) ⟨by rw [wi], N0, e0⟩ (by decide) (by decide)
  | cons x r =>
    have h0 : xs.drop 0 = x :: r := by rw [List.drop_zero]; exact hxs
    refine OEnd.go (sgAu 0 0 x (own_head h0) (by rw [hna]; exact own_oflt (own_lenlt h0) lx)) ?_
    have q := main r x ys 0 0 h0 (Nat.zero_le _) (List.drop_zero)
    rw [← hxs] at q ⊢
    exact q
theorem own_rem (x y : Int32) (d : Int) (hy : y.toInt = d) : (0 ≤ x.toInt → (x - (x / y) * y).toInt = x.toInt % d) ∧ (x.toInt < 0 → (x - (x / y) * y).toInt = -((-x.toInt) % d)) := by
  rw [rem_toInt, hy]
  exact tr _ _
theorem own_n0 : nar .boolean (0 : Int32) = 0 := by decide
theorem own_n1 : nar .boolean (1 : Int32) = 1 := by decide
theorem own_lt (x y : Int32) : x < y ↔ x.toInt < y.toInt := Int32.lt_iff_toInt_lt
theorem own_eq (x y : Int32) : x = y ↔ x.toInt = y.toInt := Int32.toInt_inj.symm
theorem own_four (x : Int32) : (x &&& (3 : Int32)) = 0 ∨ (x &&& (3 : Int32)) = 1 ∨ (x &&& (3 : Int32)) = 2 ∨ (x &&& (3 : Int32)) = 3 := by
  have h := c_mask x 3 2 (by decide) (by decide)
  have e0 : (0 : Int32).toInt = 0 := by decide
  have e1 : (1 : Int32).toInt = 1 := by decide
  have e2 : (2 : Int32).toInt = 2 := by decide
  have e3 : (3 : Int32).toInt = 3 := by decide
  simp only [own_eq, e0, e1, e2, e3, h]
  omega
def own_t3 (n a b c : Int32) : List Int32 := if n = 0 then [] else if n = 1 then [a] else if n = 2 then [a, b] else [a, b, c]
def own_s2 (n u v : Int32) : List Int32 := if n = 0 then [] else if n = 1 then [u] else [f1 u v, f2 u v]
theorem own_three (x : Int32) : f1 (x &&& (3 : Int32)) (2 : Int32) = 0 ∨ f1 (x &&& (3 : Int32)) (2 : Int32) = 1 ∨ f1 (x &&& (3 : Int32)) (2 : Int32) = 2 := by
  rcases own_four x with h | h | h | h <;> rw [h] <;> decide
theorem own_len3 {n : Int32} (a b c : Int32) (h : n = 0 ∨ n = 1 ∨ n = 2 ∨ n = 3) : n = Int32.ofNat (own_t3 n a b c).length := by
  rcases h with rfl | rfl | rfl | rfl <;> rfl
theorem own_len2 {n : Int32} (a b : Int32) (h : n = 0 ∨ n = 1 ∨ n = 2) : n = Int32.ofNat (own_s2 n a b).length := by
  rcases h with rfl | rfl | rfl <;> rfl
theorem own_lt3 {n : Int32} (a b c : Int32) (h : n = 0 ∨ n = 1 ∨ n = 2 ∨ n = 3) : (own_t3 n a b c).length < 2147483648 := by
  rcases h with rfl | rfl | rfl | rfl <;> exact Nat.le_of_ble_eq_true rfl
theorem own_lt2 {n : Int32} (a b : Int32) (h : n = 0 ∨ n = 1 ∨ n = 2) : (own_s2 n a b).length < 2147483648 := by
  rcases h with rfl | rfl | rfl <;> exact Nat.le_of_ble_eq_true rfl
theorem pd__II_I : parseMethodDescriptor "(II)I" = some ⟨[.int, .int], some .int⟩ := by decide +kernel
theorem pd__IIIIII_I : parseMethodDescriptor "(IIIIII)I" = some ⟨[.int, .int, .int, .int, .int, .int], some .int⟩ := by decide +kernel
theorem pd__IIIII_Z : parseMethodDescriptor "(IIIII)Z" = some ⟨[.int, .int, .int, .int, .int], some .boolean⟩ := by decide +kernel
theorem pd___I_I_Z : parseMethodDescriptor "([I[I)Z" = some ⟨[(.array .int), (.array .int)], some .boolean⟩ := by decide +kernel
def v0_39 (p0 : Int32) (p1 : Int32) (p2 : Int32) (p3 : Int32) (p4 : Int32) (p5 : Int32) : Int32 := (f2 (f1 p0 p1) (f1 (f2 p0 p1) p2))
def v0_57 (p0 : Int32) (p1 : Int32) (p2 : Int32) (p3 : Int32) (p4 : Int32) (p5 : Int32) : Int32 := (f1 (((p5.toUInt32 >>> ((2 : Int32) &&& 31).toUInt32).toInt32) &&& (3 : Int32)) (2 : Int32))
def v0_82 (p0 : Int32) (p1 : Int32) (p2 : Int32) (p3 : Int32) (p4 : Int32) (p5 : Int32) : Int32 := (f3 p3 (f1 (f1 p0 p1) p2) (v0_39 p0 p1 p2 p3 p4 p5) (f2 (f2 p0 p1) p2) (((p5.toUInt32 >>> ((4 : Int32) &&& 31).toUInt32).toInt32) &&& (3 : Int32)) (((p5.toUInt32 >>> ((6 : Int32) &&& 31).toUInt32).toInt32) &&& (3 : Int32)))
def v0_109 (p0 : Int32) (p1 : Int32) (p2 : Int32) (p3 : Int32) (p4 : Int32) (p5 : Int32) : Int32 := (f3 p4 (f1 (f1 p0 p1) p2) (v0_39 p0 p1 p2 p3 p4 p5) (f2 (f2 p0 p1) p2) (((p5.toUInt32 >>> ((8 : Int32) &&& 31).toUInt32).toInt32) &&& (3 : Int32)) (((p5.toUInt32 >>> ((10 : Int32) &&& 31).toUInt32).toInt32) &&& (3 : Int32)))
def v0_247 (p0 : Int32) (p1 : Int32) (p2 : Int32) (p3 : Int32) (p4 : Int32) (p5 : Int32) : Int32 := (if (v0_57 p0 p1 p2 p3 p4 p5) < (1 : Int32) then (if (v0_57 p0 p1 p2 p3 p4 p5) < (2 : Int32) then (1 : Int32) else (if (f5 (v0_109 p0 p1 p2 p3 p4 p5) (p5 &&& (3 : Int32)) (f1 (f1 p0 p1) p2) (v0_39 p0 p1 p2 p3 p4 p5) (f2 (f2 p0 p1) p2)) = (0 : Int32) then (0 : Int32) else (1 : Int32))) else (if (f5 (v0_82 p0 p1 p2 p3 p4 p5) (p5 &&& (3 : Int32)) (f1 (f1 p0 p1) p2) (v0_39 p0 p1 p2 p3 p4 p5) (f2 (f2 p0 p1) p2)) = (0 : Int32) then (0 : Int32) else (if (v0_57 p0 p1 p2 p3 p4 p5) < (2 : Int32) then (1 : Int32) else (if (f5 (v0_109 p0 p1 p2 p3 p4 p5) (p5 &&& (3 : Int32)) (f1 (f1 p0 p1) p2) (v0_39 p0 p1 p2 p3 p4 p5) (f2 (f2 p0 p1) p2)) = (0 : Int32) then (0 : Int32) else (1 : Int32)))))
def la0_0 (p0 : Int32) (p1 : Int32) (p2 : Int32) (p3 : Int32) (p4 : Int32) (p5 : Int32) : Array Slot := #[.val (.int p0), .val (.int p1), .val (.int p2), .val (.int p3), .val (.int p4), .val (.int p5), .unset, .unset, .unset, .unset, .unset, .unset, .unset, .unset, .unset, .unset]
def la0_1 (p0 : Int32) (p1 : Int32) (p2 : Int32) (p3 : Int32) (p4 : Int32) (p5 : Int32) : Array Slot := #[.val (.int p0), .val (.int p1), .val (.int p2), .val (.int p3), .val (.int p4), .val (.int p5), .val (.int (f1 (f1 p0 p1) p2)), .unset, .unset, .unset, .unset, .unset, .unset, .unset, .unset, .unset]
def la0_2 (p0 : Int32) (p1 : Int32) (p2 : Int32) (p3 : Int32) (p4 : Int32) (p5 : Int32) : Array Slot := #[.val (.int p0), .val (.int p1), .val (.int p2), .val (.int p3), .val (.int p4), .val (.int p5), .val (.int (f1 (f1 p0 p1) p2)), .val (.int (f2 (f2 p0 p1) p2)), .unset, .unset, .unset, .unset, .unset, .unset, .unset, .unset]
def la0_3 (p0 : Int32) (p1 : Int32) (p2 : Int32) (p3 : Int32) (p4 : Int32) (p5 : Int32) : Array Slot := #[.val (.int p0), .val (.int p1), .val (.int p2), .val (.int p3), .val (.int p4), .val (.int p5), .val (.int (f1 (f1 p0 p1) p2)), .val (.int (f2 (f2 p0 p1) p2)), .val (.int (v0_39 p0 p1 p2 p3 p4 p5)), .unset, .unset, .unset, .unset, .unset, .unset, .unset]
def la0_4 (p0 : Int32) (p1 : Int32) (p2 : Int32) (p3 : Int32) (p4 : Int32) (p5 : Int32) : Array Slot := #[.val (.int p0), .val (.int p1), .val (.int p2), .val (.int p3), .val (.int p4), .val (.int p5), .val (.int (f1 (f1 p0 p1) p2)), .val (.int (f2 (f2 p0 p1) p2)), .val (.int (v0_39 p0 p1 p2 p3 p4 p5)), .val (.int (p5 &&& (3 : Int32))), .unset, .unset, .unset, .unset, .unset, .unset]
def la0_5 (p0 : Int32) (p1 : Int32) (p2 : Int32) (p3 : Int32) (p4 : Int32) (p5 : Int32) : Array Slot := #[.val (.int p0), .val (.int p1), .val (.int p2), .val (.int p3), .val (.int p4), .val (.int p5), .val (.int (f1 (f1 p0 p1) p2)), .val (.int (f2 (f2 p0 p1) p2)), .val (.int (v0_39 p0 p1 p2 p3 p4 p5)), .val (.int (p5 &&& (3 : Int32))), .val (.int (v0_57 p0 p1 p2 p3 p4 p5)), .unset, .unset, .unset, .unset, .unset]
def la0_6 (p0 : Int32) (p1 : Int32) (p2 : Int32) (p3 : Int32) (p4 : Int32) (p5 : Int32) : Array Slot := #[.val (.int p0), .val (.int p1), .val (.int p2), .val (.int p3), .val (.int p4), .val (.int p5), .val (.int (f1 (f1 p0 p1) p2)), .val (.int (f2 (f2 p0 p1) p2)), .val (.int (v0_39 p0 p1 p2 p3 p4 p5)), .val (.int (p5 &&& (3 : Int32))), .val (.int (v0_57 p0 p1 p2 p3 p4 p5)), .val (.int (v0_82 p0 p1 p2 p3 p4 p5)), .unset, .unset, .unset, .unset]
def la0_7 (p0 : Int32) (p1 : Int32) (p2 : Int32) (p3 : Int32) (p4 : Int32) (p5 : Int32) : Array Slot := #[.val (.int p0), .val (.int p1), .val (.int p2), .val (.int p3), .val (.int p4), .val (.int p5), .val (.int (f1 (f1 p0 p1) p2)), .val (.int (f2 (f2 p0 p1) p2)), .val (.int (v0_39 p0 p1 p2 p3 p4 p5)), .val (.int (p5 &&& (3 : Int32))), .val (.int (v0_57 p0 p1 p2 p3 p4 p5)), .val (.int (v0_82 p0 p1 p2 p3 p4 p5)), .val (.int (v0_109 p0 p1 p2 p3 p4 p5)), .unset, .unset, .unset]
def la0_8 (p0 : Int32) (p1 : Int32) (p2 : Int32) (p3 : Int32) (p4 : Int32) (p5 : Int32) : Array Slot := #[.val (.int p0), .val (.int p1), .val (.int p2), .val (.int p3), .val (.int p4), .val (.int p5), .val (.int (f1 (f1 p0 p1) p2)), .val (.int (f2 (f2 p0 p1) p2)), .val (.int (v0_39 p0 p1 p2 p3 p4 p5)), .val (.int (0 : Int32)), .val (.int (v0_57 p0 p1 p2 p3 p4 p5)), .val (.int (v0_82 p0 p1 p2 p3 p4 p5)), .val (.int (v0_109 p0 p1 p2 p3 p4 p5)), .unset, .unset, .unset]
def la0_9 (p0 : Int32) (p1 : Int32) (p2 : Int32) (p3 : Int32) (p4 : Int32) (p5 : Int32) (b0_113 : Addr) : Array Slot := #[.val (.int p0), .val (.int p1), .val (.int p2), .val (.int p3), .val (.int p4), .val (.int p5), .val (.int (f1 (f1 p0 p1) p2)), .val (.int (f2 (f2 p0 p1) p2)), .val (.int (v0_39 p0 p1 p2 p3 p4 p5)), .val (.int (0 : Int32)), .val (.int (v0_57 p0 p1 p2 p3 p4 p5)), .val (.int (v0_82 p0 p1 p2 p3 p4 p5)), .val (.int (v0_109 p0 p1 p2 p3 p4 p5)), .val (.ref b0_113), .unset, .unset]
def la0_10 (p0 : Int32) (p1 : Int32) (p2 : Int32) (p3 : Int32) (p4 : Int32) (p5 : Int32) : Array Slot := #[.val (.int p0), .val (.int p1), .val (.int p2), .val (.int p3), .val (.int p4), .val (.int p5), .val (.int (f1 (f1 p0 p1) p2)), .val (.int (f2 (f2 p0 p1) p2)), .val (.int (v0_39 p0 p1 p2 p3 p4 p5)), .val (.int (1 : Int32)), .val (.int (v0_57 p0 p1 p2 p3 p4 p5)), .val (.int (v0_82 p0 p1 p2 p3 p4 p5)), .val (.int (v0_109 p0 p1 p2 p3 p4 p5)), .unset, .unset, .unset]
def la0_11 (p0 : Int32) (p1 : Int32) (p2 : Int32) (p3 : Int32) (p4 : Int32) (p5 : Int32) (b0_113 : Addr) : Array Slot := #[.val (.int p0), .val (.int p1), .val (.int p2), .val (.int p3), .val (.int p4), .val (.int p5), .val (.int (f1 (f1 p0 p1) p2)), .val (.int (f2 (f2 p0 p1) p2)), .val (.int (v0_39 p0 p1 p2 p3 p4 p5)), .val (.int (1 : Int32)), .val (.int (v0_57 p0 p1 p2 p3 p4 p5)), .val (.int (v0_82 p0 p1 p2 p3 p4 p5)), .val (.int (v0_109 p0 p1 p2 p3 p4 p5)), .val (.ref b0_113), .unset, .unset]
def la0_12 (p0 : Int32) (p1 : Int32) (p2 : Int32) (p3 : Int32) (p4 : Int32) (p5 : Int32) : Array Slot := #[.val (.int p0), .val (.int p1), .val (.int p2), .val (.int p3), .val (.int p4), .val (.int p5), .val (.int (f1 (f1 p0 p1) p2)), .val (.int (f2 (f2 p0 p1) p2)), .val (.int (v0_39 p0 p1 p2 p3 p4 p5)), .val (.int (2 : Int32)), .val (.int (v0_57 p0 p1 p2 p3 p4 p5)), .val (.int (v0_82 p0 p1 p2 p3 p4 p5)), .val (.int (v0_109 p0 p1 p2 p3 p4 p5)), .unset, .unset, .unset]
def la0_13 (p0 : Int32) (p1 : Int32) (p2 : Int32) (p3 : Int32) (p4 : Int32) (p5 : Int32) (b0_113 : Addr) : Array Slot := #[.val (.int p0), .val (.int p1), .val (.int p2), .val (.int p3), .val (.int p4), .val (.int p5), .val (.int (f1 (f1 p0 p1) p2)), .val (.int (f2 (f2 p0 p1) p2)), .val (.int (v0_39 p0 p1 p2 p3 p4 p5)), .val (.int (2 : Int32)), .val (.int (v0_57 p0 p1 p2 p3 p4 p5)), .val (.int (v0_82 p0 p1 p2 p3 p4 p5)), .val (.int (v0_109 p0 p1 p2 p3 p4 p5)), .val (.ref b0_113), .unset, .unset]
def la0_14 (p0 : Int32) (p1 : Int32) (p2 : Int32) (p3 : Int32) (p4 : Int32) (p5 : Int32) : Array Slot := #[.val (.int p0), .val (.int p1), .val (.int p2), .val (.int p3), .val (.int p4), .val (.int p5), .val (.int (f1 (f1 p0 p1) p2)), .val (.int (f2 (f2 p0 p1) p2)), .val (.int (v0_39 p0 p1 p2 p3 p4 p5)), .val (.int (3 : Int32)), .val (.int (v0_57 p0 p1 p2 p3 p4 p5)), .val (.int (v0_82 p0 p1 p2 p3 p4 p5)), .val (.int (v0_109 p0 p1 p2 p3 p4 p5)), .unset, .unset, .unset]
def la0_15 (p0 : Int32) (p1 : Int32) (p2 : Int32) (p3 : Int32) (p4 : Int32) (p5 : Int32) (b0_113 : Addr) : Array Slot := #[.val (.int p0), .val (.int p1), .val (.int p2), .val (.int p3), .val (.int p4), .val (.int p5), .val (.int (f1 (f1 p0 p1) p2)), .val (.int (f2 (f2 p0 p1) p2)), .val (.int (v0_39 p0 p1 p2 p3 p4 p5)), .val (.int (3 : Int32)), .val (.int (v0_57 p0 p1 p2 p3 p4 p5)), .val (.int (v0_82 p0 p1 p2 p3 p4 p5)), .val (.int (v0_109 p0 p1 p2 p3 p4 p5)), .val (.ref b0_113), .unset, .unset]
def la0_16 (p0 : Int32) (p1 : Int32) (p2 : Int32) (p3 : Int32) (p4 : Int32) (p5 : Int32) (b0_113 : Addr) : Array Slot := #[.val (.int p0), .val (.int p1), .val (.int p2), .val (.int p3), .val (.int p4), .val (.int p5), .val (.int (f1 (f1 p0 p1) p2)), .val (.int (f2 (f2 p0 p1) p2)), .val (.int (v0_39 p0 p1 p2 p3 p4 p5)), .val (.int (p5 &&& (3 : Int32))), .val (.int (0 : Int32)), .val (.int (v0_82 p0 p1 p2 p3 p4 p5)), .val (.int (v0_109 p0 p1 p2 p3 p4 p5)), .val (.ref b0_113), .unset, .unset]
def la0_17 (p0 : Int32) (p1 : Int32) (p2 : Int32) (p3 : Int32) (p4 : Int32) (p5 : Int32) (b0_113 : Addr) (b0_154 : Addr) : Array Slot := #[.val (.int p0), .val (.int p1), .val (.int p2), .val (.int p3), .val (.int p4), .val (.int p5), .val (.int (f1 (f1 p0 p1) p2)), .val (.int (f2 (f2 p0 p1) p2)), .val (.int (v0_39 p0 p1 p2 p3 p4 p5)), .val (.int (p5 &&& (3 : Int32))), .val (.int (0 : Int32)), .val (.int (v0_82 p0 p1 p2 p3 p4 p5)), .val (.int (v0_109 p0 p1 p2 p3 p4 p5)), .val (.ref b0_113), .val (.ref b0_154), .unset]
def la0_18 (p0 : Int32) (p1 : Int32) (p2 : Int32) (p3 : Int32) (p4 : Int32) (p5 : Int32) (b0_113 : Addr) : Array Slot := #[.val (.int p0), .val (.int p1), .val (.int p2), .val (.int p3), .val (.int p4), .val (.int p5), .val (.int (f1 (f1 p0 p1) p2)), .val (.int (f2 (f2 p0 p1) p2)), .val (.int (v0_39 p0 p1 p2 p3 p4 p5)), .val (.int (p5 &&& (3 : Int32))), .val (.int (1 : Int32)), .val (.int (v0_82 p0 p1 p2 p3 p4 p5)), .val (.int (v0_109 p0 p1 p2 p3 p4 p5)), .val (.ref b0_113), .unset, .unset]
def la0_19 (p0 : Int32) (p1 : Int32) (p2 : Int32) (p3 : Int32) (p4 : Int32) (p5 : Int32) (b0_113 : Addr) (b0_154 : Addr) : Array Slot := #[.val (.int p0), .val (.int p1), .val (.int p2), .val (.int p3), .val (.int p4), .val (.int p5), .val (.int (f1 (f1 p0 p1) p2)), .val (.int (f2 (f2 p0 p1) p2)), .val (.int (v0_39 p0 p1 p2 p3 p4 p5)), .val (.int (p5 &&& (3 : Int32))), .val (.int (1 : Int32)), .val (.int (v0_82 p0 p1 p2 p3 p4 p5)), .val (.int (v0_109 p0 p1 p2 p3 p4 p5)), .val (.ref b0_113), .val (.ref b0_154), .unset]
def la0_20 (p0 : Int32) (p1 : Int32) (p2 : Int32) (p3 : Int32) (p4 : Int32) (p5 : Int32) (b0_113 : Addr) : Array Slot := #[.val (.int p0), .val (.int p1), .val (.int p2), .val (.int p3), .val (.int p4), .val (.int p5), .val (.int (f1 (f1 p0 p1) p2)), .val (.int (f2 (f2 p0 p1) p2)), .val (.int (v0_39 p0 p1 p2 p3 p4 p5)), .val (.int (p5 &&& (3 : Int32))), .val (.int (2 : Int32)), .val (.int (v0_82 p0 p1 p2 p3 p4 p5)), .val (.int (v0_109 p0 p1 p2 p3 p4 p5)), .val (.ref b0_113), .unset, .unset]
def la0_21 (p0 : Int32) (p1 : Int32) (p2 : Int32) (p3 : Int32) (p4 : Int32) (p5 : Int32) (b0_113 : Addr) (b0_154 : Addr) : Array Slot := #[.val (.int p0), .val (.int p1), .val (.int p2), .val (.int p3), .val (.int p4), .val (.int p5), .val (.int (f1 (f1 p0 p1) p2)), .val (.int (f2 (f2 p0 p1) p2)), .val (.int (v0_39 p0 p1 p2 p3 p4 p5)), .val (.int (p5 &&& (3 : Int32))), .val (.int (2 : Int32)), .val (.int (v0_82 p0 p1 p2 p3 p4 p5)), .val (.int (v0_109 p0 p1 p2 p3 p4 p5)), .val (.ref b0_113), .val (.ref b0_154), .unset]
def la0_22 (p0 : Int32) (p1 : Int32) (p2 : Int32) (p3 : Int32) (p4 : Int32) (p5 : Int32) (b0_113 : Addr) (b0_154 : Addr) : Array Slot := #[.val (.int p0), .val (.int p1), .val (.int p2), .val (.int p3), .val (.int p4), .val (.int p5), .val (.int (f1 (f1 p0 p1) p2)), .val (.int (f2 (f2 p0 p1) p2)), .val (.int (v0_39 p0 p1 p2 p3 p4 p5)), .val (.int (p5 &&& (3 : Int32))), .val (.int (v0_57 p0 p1 p2 p3 p4 p5)), .val (.int (v0_82 p0 p1 p2 p3 p4 p5)), .val (.int (v0_109 p0 p1 p2 p3 p4 p5)), .val (.ref b0_113), .val (.ref b0_154), .unset]
def la0_23 (p0 : Int32) (p1 : Int32) (p2 : Int32) (p3 : Int32) (p4 : Int32) (p5 : Int32) (b0_113 : Addr) (b0_154 : Addr) : Array Slot := #[.val (.int p0), .val (.int p1), .val (.int p2), .val (.int p3), .val (.int p4), .val (.int p5), .val (.int (f1 (f1 p0 p1) p2)), .val (.int (f2 (f2 p0 p1) p2)), .val (.int (v0_39 p0 p1 p2 p3 p4 p5)), .val (.int (p5 &&& (3 : Int32))), .val (.int (v0_57 p0 p1 p2 p3 p4 p5)), .val (.int (v0_82 p0 p1 p2 p3 p4 p5)), .val (.int (v0_109 p0 p1 p2 p3 p4 p5)), .val (.ref b0_113), .val (.ref b0_154), .val (.int (v0_247 p0 p1 p2 p3 p4 p5))]
def la0_24 (p0 : Int32) (p1 : Int32) (p2 : Int32) (p3 : Int32) (p4 : Int32) (p5 : Int32) (b0_113 : Addr) : Array Slot := #[.val (.int p0), .val (.int p1), .val (.int p2), .val (.int p3), .val (.int p4), .val (.int p5), .val (.int (f1 (f1 p0 p1) p2)), .val (.int (f2 (f2 p0 p1) p2)), .val (.int (v0_39 p0 p1 p2 p3 p4 p5)), .val (.int (p5 &&& (3 : Int32))), .val (.int (v0_57 p0 p1 p2 p3 p4 p5)), .val (.int (v0_82 p0 p1 p2 p3 p4 p5)), .val (.int (v0_109 p0 p1 p2 p3 p4 p5)), .val (.ref b0_113), .unset, .unset]
def f0 (p0 : Int32) (p1 : Int32) (p2 : Int32) (p3 : Int32) (p4 : Int32) (p5 : Int32) : Int32 := (if (nar .boolean (wi (own_s2 (v0_57 p0 p1 p2 p3 p4 p5) (v0_82 p0 p1 p2 p3 p4 p5) (v0_109 p0 p1 p2 p3 p4 p5)) (own_t3 (p5 &&& (3 : Int32)) (f1 (f1 p0 p1) p2) (v0_39 p0 p1 p2 p3 p4 p5) (f2 (f2 p0 p1) p2)))) = (v0_247 p0 p1 p2 p3 p4 p5) then (1 : Int32) else (0 : Int32))
theorem own_ns (a b c d e g : Int32) : v0_57 a b c d e g = 0 ∨ v0_57 a b c d e g = 1 ∨ v0_57 a b c d e g = 2 := own_three _
def Srt (l : List Int32) : Prop := List.Pairwise (fun a b => a.toInt ≤ b.toInt) l
theorem own_wmem {x z : Int32} (h : x.toInt ≤ z.toInt) (ys : List Int32) : z ∈ ys ↔ z ∈ wadv x ys := by
  induction ys with
  | nil => exact Iff.rfl
  | cons y r ih =>
    rw [wadv]
    by_cases c : y < x
    · rw [if_pos c, ← ih, List.mem_cons]
      constructor
      · intro q
        rcases q with rfl | q
        · exact absurd ((own_lt _ _).mp c) (by omega)
        · exact q
      · exact Or.inr
    · rw [if_neg c]
theorem own_wsrt {x : Int32} (ys : List Int32) (h : Srt ys) : Srt (wadv x ys) := by
  induction ys with
  | nil => exact h
  | cons y r ih =>
    rw [wadv]
    by_cases c : y < x
    · rw [if_pos c]
      exact ih (List.Pairwise.of_cons h)
    · rw [if_neg c]
      exact h
theorem own_whead {x y : Int32} {r : List Int32} (ys : List Int32) (e : wadv x ys = y :: r) : x.toInt ≤ y.toInt := by
  induction ys with
  | nil => cases e
  | cons y2 r2 ih =>
    rw [wadv] at e
    by_cases c : y2 < x
    · rw [if_pos c] at e
      exact ih e
    · rw [if_neg c] at e
      cases e
      rw [own_lt] at c
      omega
theorem own_wi (xs : List Int32) : ∀ ys, Srt xs → Srt ys → ((∀ x ∈ xs, x ∈ ys) → wi xs ys = 1) ∧ (¬ (∀ x ∈ xs, x ∈ ys) → wi xs ys = 0) := by
  induction xs with
  | nil => exact fun ys _ _ => ⟨fun _ => by rw [wi], fun q => absurd (fun x hx => nomatch hx) q⟩
  | cons x xs ih =>
    intro ys hx hy
    rw [wi_cons]
    have hm := own_wmem (Int.le_refl x.toInt) ys
    have hs := own_wsrt (x := x) ys hy
    cases hw2 : wadv x ys with
    | nil =>
      rw [hw2] at hm
      exact ⟨fun q => absurd (hm.mp (q x (List.mem_cons_self ..))) (fun z => nomatch z), fun _ => rfl⟩
    | cons y r =>
      have hh := own_whead ys hw2
      rw [hw2] at hm hs
      by_cases c : y = x
      · have k := ih (y :: r) (List.Pairwise.of_cons hx) hs
        have same : (∀ z ∈ x :: xs, z ∈ ys) ↔ (∀ z ∈ xs, z ∈ y :: r) := by
          constructor
          · intro q z hz
            have := (own_wmem (x := x) (List.rel_of_pairwise_cons hx hz) ys).mp (q z (List.mem_cons_of_mem _ hz))
            rw [hw2] at this
            exact this
          · intro q z hz
            rcases List.mem_cons.mp hz with rfl | hz
            · exact hm.mpr (by rw [c]; exact List.mem_cons_self ..)
            · refine (own_wmem (x := x) (List.rel_of_pairwise_cons hx hz) ys).mpr ?_
              rw [hw2]
              exact q z hz
        rw [same]
        show ((∀ z ∈ xs, z ∈ y :: r) → (if y = x then wi xs (y :: r) else 0) = 1) ∧ (¬ (∀ z ∈ xs, z ∈ y :: r) → (if y = x then wi xs (y :: r) else 0) = 0)
        rw [if_pos c]
        exact k
      · show ((∀ z ∈ x :: xs, z ∈ ys) → (if y = x then wi xs (y :: r) else 0) = 1) ∧ (¬ (∀ z ∈ x :: xs, z ∈ ys) → (if y = x then wi xs (y :: r) else 0) = 0)
        rw [if_neg c]
        refine ⟨fun q => ?_, fun _ => rfl⟩
        have := hm.mp (q x (List.mem_cons_self ..))
        rcases List.mem_cons.mp this with h | h
        · exact absurd h.symm c
        · have := List.rel_of_pairwise_cons hs h
          exact absurd (show y = x by rw [own_eq]; omega) c
theorem own_member {n : Int32} (h : n = 0 ∨ n = 1 ∨ n = 2 ∨ n = 3) (w a b c : Int32) : (w ∈ own_t3 n a b c → f5 w n a b c = 1) ∧ (¬ (w ∈ own_t3 n a b c) → f5 w n a b c = 0) := by
  have t0 : own_t3 0 a b c = [] := rfl
  have t1 : own_t3 1 a b c = [a] := rfl
  have t2 : own_t3 2 a b c = [a, b] := rfl
  have t3 : own_t3 3 a b c = [a, b, c] := rfl
  rcases h with rfl | rfl | rfl | rfl
  · rw [t0]
    exact ⟨fun q => (nomatch q), fun _ => (show nar .boolean (0 : Int32) = 0 from own_n0)⟩
  · rw [t1]
    show (w ∈ [a] → nar .boolean (if a = w then (1 : Int32) else (0 : Int32)) = 1) ∧ (¬ w ∈ [a] → nar .boolean (if a = w then (1 : Int32) else (0 : Int32)) = 0)
    by_cases h1 : a = w
    · rw [if_pos h1, own_n1]; exact ⟨fun _ => rfl, fun q => absurd (by simp [h1]) q⟩
    · rw [if_neg h1, own_n0]; exact ⟨fun q => absurd (List.mem_singleton.mp q).symm h1, fun _ => rfl⟩
  · rw [t2]
    show (w ∈ [a, b] → nar .boolean (if a = w then (1 : Int32) else (if b = w then (1 : Int32) else (0 : Int32))) = 1) ∧ (¬ w ∈ [a, b] → nar .boolean (if a = w then (1 : Int32) else (if b = w then (1 : Int32) else (0 : Int32))) = 0)
    by_cases h1 : a = w
    · rw [if_pos h1, own_n1]; exact ⟨fun _ => rfl, fun q => absurd (by simp [h1]) q⟩
    · rw [if_neg h1]
      by_cases h2 : b = w
      · rw [if_pos h2, own_n1]; exact ⟨fun _ => rfl, fun q => absurd (by simp [h2]) q⟩
      · rw [if_neg h2, own_n0]
        refine ⟨fun q => ?_, fun _ => rfl⟩
        simp only [List.mem_cons, List.not_mem_nil, or_false] at q
        rcases q with q | q
        · exact absurd q.symm h1
        · exact absurd q.symm h2
  · rw [t3]
    show (w ∈ [a, b, c] → nar .boolean (if a = w then (1 : Int32) else (if b = w then (1 : Int32) else (if c = w then (1 : Int32) else (0 : Int32)))) = 1) ∧ (¬ w ∈ [a, b, c] → nar .boolean (if a = w then (1 : Int32) else (if b = w then (1 : Int32) else (if c = w then (1 : Int32) else (0 : Int32)))) = 0)
    by_cases h1 : a = w
    · rw [if_pos h1, own_n1]; exact ⟨fun _ => rfl, fun q => absurd (by simp [h1]) q⟩
    · rw [if_neg h1]
      by_cases h2 : b = w
      · rw [if_pos h2, own_n1]; exact ⟨fun _ => rfl, fun q => absurd (by simp [h2]) q⟩
      · rw [if_neg h2]
        by_cases h3 : c = w
        · rw [if_pos h3, own_n1]; exact ⟨fun _ => rfl, fun q => absurd (by simp [h3]) q⟩
        · rw [if_neg h3, own_n0]
          refine ⟨fun q => ?_, fun _ => rfl⟩
          simp only [List.mem_cons, List.not_mem_nil, or_false] at q
          rcases q with q | q | q
          · exact absurd q.symm h1
          · exact absurd q.symm h2
          · exact absurd q.symm h3
theorem own_mn (a b : Int32) : (f1 a b).toInt ≤ a.toInt ∧ (f1 a b).toInt ≤ b.toInt ∧ (f1 a b = a ∨ f1 a b = b) := by
  unfold f1
  by_cases h : b < a
  · rw [if_pos h]; have := (own_lt _ _).mp h; exact ⟨by omega, by omega, Or.inr rfl⟩
  · rw [if_neg h]; have := (not_congr (own_lt _ _)).mp h; exact ⟨by omega, by omega, Or.inl rfl⟩
theorem own_mx (a b : Int32) : a.toInt ≤ (f2 a b).toInt ∧ b.toInt ≤ (f2 a b).toInt ∧ (f2 a b = a ∨ f2 a b = b) := by
  unfold f2
  by_cases h : a < b
  · rw [if_pos h]; have := (own_lt _ _).mp h; exact ⟨by omega, by omega, Or.inr rfl⟩
  · rw [if_neg h]; have := (not_congr (own_lt _ _)).mp h; exact ⟨by omega, by omega, Or.inl rfl⟩
theorem own_srt3 (n : Int32) {a b c : Int32} (h1 : a.toInt ≤ b.toInt) (h2 : b.toInt ≤ c.toInt) : Srt (own_t3 n a b c) := by
  unfold own_t3 Srt
  split
  · exact List.Pairwise.nil
  split
  · simp
  split
  · simp [h1]
  · simp [h1, h2]; omega
theorem own_two (u v : Int32) : (f1 u v = u ∧ f2 u v = v) ∨ (f1 u v = v ∧ f2 u v = u) := by
  unfold f1 f2
  by_cases h : v < u
  · have h' := (own_lt _ _).mp h
    have h2 : ¬ (u < v) := by rw [own_lt]; omega
    rw [if_pos h, if_neg h2]
    exact Or.inr ⟨rfl, rfl⟩
  · rw [if_neg h]
    by_cases h2 : u < v
    · rw [if_pos h2]; exact Or.inl ⟨rfl, rfl⟩
    · rw [if_neg h2]
      have : u = v := by
        rw [own_lt] at h h2
        rw [own_eq]
        omega
      rw [this]
      exact Or.inl ⟨rfl, rfl⟩
theorem own_bool {c : Int32} (h : c = 0 ∨ c = 1) : (if c = (0 : Int32) then (0 : Int32) else (1 : Int32)) = c := by
  rcases h with rfl | rfl
  · rw [if_pos rfl]
  · rw [if_neg (by decide)]
theorem own_key {ns u v : Int32} {ys : List Int32} (hs : Srt ys) (W : Int32 → Int32) (hW : ∀ x, (x ∈ ys → W x = 1) ∧ (¬ x ∈ ys → W x = 0)) (hn : ns = 0 ∨ ns = 1 ∨ ns = 2) :
    nar .boolean (wi (own_s2 ns u v) ys) = (if ns < (1 : Int32) then (if ns < (2 : Int32) then (1 : Int32) else (if W v = (0 : Int32) then (0 : Int32) else (1 : Int32))) else (if W u = (0 : Int32) then (0 : Int32) else (if ns < (2 : Int32) then (1 : Int32) else (if W v = (0 : Int32) then (0 : Int32) else (1 : Int32))))) := by
  have n10 : ¬ ((1 : Int32) = 0) := by decide
  rcases hn with rfl | rfl | rfl
  · rw [show own_s2 0 u v = [] from rfl, show wi [] ys = 1 from by rw [wi], own_n1, if_pos (by decide), if_pos (by decide)]
  · rw [show own_s2 1 u v = [u] from rfl, if_neg (by decide : ¬ ((1 : Int32) < 1)), if_pos (by decide : (1 : Int32) < 2)]
    have k := own_wi [u] ys (List.pairwise_singleton _ _) hs
    by_cases hu : u ∈ ys
    · rw [k.1 (fun x hx => by rw [List.mem_singleton.mp hx]; exact hu), own_n1, (hW u).1 hu, if_neg n10]
    · rw [k.2 (fun q => hu (q u (List.mem_singleton.mpr rfl))), own_n0, (hW u).2 hu, if_pos rfl]
  · rw [show own_s2 2 u v = [f1 u v, f2 u v] from rfl, if_neg (by decide : ¬ ((2 : Int32) < 1)), if_neg (by decide : ¬ ((2 : Int32) < 2))]
    have hx : Srt [f1 u v, f2 u v] := by
      have a1 := own_mn u v
      have a2 := own_mx u v
      unfold Srt
      simp only [List.pairwise_cons, List.mem_cons, List.not_mem_nil, or_false, forall_eq]
      exact ⟨by omega, by simp⟩
    have k := own_wi [f1 u v, f2 u v] ys hx hs
    have both : (∀ x ∈ [f1 u v, f2 u v], x ∈ ys) ↔ (u ∈ ys ∧ v ∈ ys) := by
      simp only [List.mem_cons, List.not_mem_nil, or_false, forall_eq_or_imp, forall_eq]
      rcases own_two u v with ⟨e1, e2⟩ | ⟨e1, e2⟩
      · rw [e1, e2]
      · rw [e1, e2]; exact And.comm
    rw [both] at k
    by_cases hu : u ∈ ys
    · rw [(hW u).1 hu, if_neg n10]
      by_cases hv : v ∈ ys
      · rw [k.1 ⟨hu, hv⟩, own_n1, (hW v).1 hv, if_neg n10]
      · rw [k.2 (fun q => hv q.2), own_n0, (hW v).2 hv, if_pos rfl]
    · rw [k.2 (fun q => hu q.1), own_n0, (hW u).2 hu, if_pos rfl]
theorem own_plain (a b c d e g : Int32) : f0 a b c d e g = 1 := by
  have hs : Srt (own_t3 (g &&& (3 : Int32)) (f1 (f1 a b) c) (v0_39 a b c d e g) (f2 (f2 a b) c)) := by
    have m1 := own_mn a b
    have m2 := own_mn (f1 a b) c
    have x1 := own_mx a b
    have x2 := own_mx (f2 a b) c
    have m3 := own_mn (f2 a b) c
    have x3 := own_mx (f1 a b) (f1 (f2 a b) c)
    refine own_srt3 _ ?_ ?_
    · unfold v0_39; omega
    · unfold v0_39
      rcases x3.2.2 with q | q <;> rw [q] <;> omega
  have k := own_key (u := v0_82 a b c d e g) (v := v0_109 a b c d e g) hs (fun x => f5 x (g &&& (3 : Int32)) (f1 (f1 a b) c) (v0_39 a b c d e g) (f2 (f2 a b) c)) (fun x => own_member (own_four g) x _ _ _) (own_ns a b c d e g)
  unfold f0
  rw [if_pos]
  exact k

theorem ef_0 (m : MethodId) (x0 : Int32) (x1 : Int32) (x2 : Int32) (x3 : Int32) (x4 : Int32) (x5 : Int32) : entryFrame m #[(.int x0), (.int x1), (.int x2), (.int x3), (.int x4), (.int x5)] maxLocals = mkF m 0 #[.val (.int x0), .val (.int x1), .val (.int x2), .val (.int x3), .val (.int x4), .val (.int x5), .unset, .unset, .unset, .unset, .unset, .unset, .unset, .unset, .unset, .unset] [] := by first | (simp [entryFrame, mkF, argsToLocals, Value.category, maxLocals]; done) | rfl
def Q0 (Z : State) (p0 : Int32) (p1 : Int32) (p2 : Int32) (p3 : Int32) (p4 : Int32) (p5 : Int32) (h0 : Heap) (n0 : Nat) (v : Option Value) (h : Heap) (L : List Loc) : Prop := v = some (.int 1) ∧ Fr n0 L
set_option maxRecDepth 65536 in
set_option maxHeartbeats 40000000 in
theorem rm0 (l : Launch) (Z : State) (aZ : Array Value) (hw : ∀ d ∈ tables_1, d.before aZ Z = true) (ws : List Jvm.Cond) (p0 : Int32) (p1 : Int32) (p2 : Int32) (p3 : Int32) (p4 : Int32) (p5 : Int32) (h0 : Heap) (n0 : Nat) (Z0 : n0 ≤ h0.size) :
    MetFree l x (head1 (Jvm.Cond.code x code maxLocals ret :: ws) room_1) (fun a U => a = #[(.int p0), (.int p1), (.int p2), (.int p3), (.int p4), (.int p5)] ∧ Z.Warmed39 U.vm ∧ U.heap = h0) (fun _ _ _ _ _ => True) (fun _ U o U' => ∃ v L, o = .returned v ∧ Q0 Z p0 p1 p2 p3 p4 p5 h0 n0 v U'.heap L ∧ FrameEnd U o U' L room_1.cells room_1.slots) := by
  refine MetFree.of_bodySF (plainFor_of_name pn_com_example_nuthatch_nuthatch_logic_DemandsWithinPinLaw) hisR ?_
  intro p e s m args below meth c s₁ Bd hml0 hP hK
  obtain ⟨rfl, hZ, hh⟩ := hP
  have hx := Bd.exec
  have hby := Bd.bytes
  have hlk : meth.locks = false := BodyLoose.notSynchronized Bd
  have hml : c.maxLocals = 16 := hml0
  have hown : s.vm.findClass "com/example/nuthatch/nuthatch/logic/DemandsWithinPinLaw" = some m.cls := findClass_of_methodNamed Bd.named
  have hnm := (name_of_methodNamed Bd.named Bd.method).1
  have X0 : Stand p l e room_1 s m #[(.int p0), (.int p1), (.int p2), (.int p3), (.int p4), (.int p5)] below meth c s₁ [] 0 0 := Stand.of_body Bd
  have e0 : s₁.heap = h0 := by rw [← hh, Bd.state]; rfl
  have N0 := Fr.nil n0
  show OEnd p e below s s₁ (entryFrame m #[(.int p0), (.int p1), (.int p2), (.int p3), (.int p4), (.int p5)] maxLocals) (Q0 Z p0 p1 p2 p3 p4 p5 h0 n0) room_1.cells room_1.slots
  refine OEnd.go (g' := (mkF m 0 (la0_0 p0 p1 p2 p3 p4 p5) [])) (fun _ k => castTop (ef_0 m p0 p1 p2 p3 p4 p5) k) ?_
  refine OEnd.go (T' := s₁) (g' := (mkF m 2 (la0_0 p0 p1 p2 p3 p4 p5) [(.int p1), (.int p0)])) (fun t k => ?_) ?_
  · show Steps p.tables e below (s₁.setTop (mkF m 0 (la0_0 p0 p1 p2 p3 p4 p5) [])) t
    refine XS.iloadN X0.here hx rfl (hb hby at_0) rfl ?_
    show Steps p.tables e below (s₁.setTop (mkF m 1 (la0_0 p0 p1 p2 p3 p4 p5) [(.int p0)])) t
    refine XS.iloadN X0.here hx rfl (hb hby at_1) rfl ?_
    show Steps p.tables e below (s₁.setTop (mkF m 2 (la0_0 p0 p1 p2 p3 p4 p5) [(.int p1), (.int p0)])) t
    exact k
  obtain ⟨_, _, ⟨T1, L1, k1, n1⟩, -, X1, ⟨Lc1, hQ1, l1, y1, z1⟩, st1⟩ := Jvm.LawKit.callS X0 hx (y := (⟨"java/lang/Math", "min", "(II)I"⟩ : MethodName)) hown (mvT hZ (hw _ (List.mem_of_getElem? (i := 0) rfl))) (mvT hZ (hw _ (List.mem_of_getElem? (i := 1) rfl))) (mvT hZ (hw _ (List.mem_of_getElem? (i := 2) rfl))) (mvT hZ (hw _ (List.mem_of_getElem? (i := 3) rfl))) (by decide) (backOf (W := 0) (rm1 l Z aZ hw [] p0 p1 h0 n0 Z0 ) hZ (hw _ (List.mem_of_getElem? (i := 3) rfl)) (hw _ (List.mem_of_getElem? (i := 2) rfl)) (by decide) (by decide)) (g := (mkF m 2 (la0_0 p0 p1 p2 p3 p4 p5) [(.int p1), (.int p0)])) rfl (by rw [hml]; rfl) (argsL := [(.int p0), (.int p1)]) (rest := []) (lenOf pd__II_I rfl) rfl (by show 2 * 0 + _ ≤ _; exact Nat.le_of_eq rfl) (hb hby at_2) (fun _ _ => ⟨rfl, e0, (by decide : 0 + 0 ≤ _), (by decide : 0 + 0 ≤ _)⟩)
  dsimp only [Pt.U, Pt.locs, Pt.cells, Pt.slots] at X1 l1 y1 z1 st1 hQ1
  subst l1 y1 z1
  obtain ⟨rfl, N1q, e1⟩ := hQ1
  have N1 := Fr.app N0 N1q
  refine OEnd.go (g' := (mkF m 5 (la0_0 p0 p1 p2 p3 p4 p5) [(.int (f1 p0 p1))])) st1 ?_
  refine OEnd.go (T' := T1) (g' := (mkF m 6 (la0_0 p0 p1 p2 p3 p4 p5) [(.int p2), (.int (f1 p0 p1))])) (fun t k => ?_) ?_
  · show Steps p.tables e below (T1.setTop (mkF m 5 (la0_0 p0 p1 p2 p3 p4 p5) [(.int (f1 p0 p1))])) t
    refine XS.iloadN X1.here hx rfl (hb hby at_5) rfl ?_
    show Steps p.tables e below (T1.setTop (mkF m 6 (la0_0 p0 p1 p2 p3 p4 p5) [(.int p2), (.int (f1 p0 p1))])) t
    exact k
  obtain ⟨_, _, ⟨T2, L2, k2, n2⟩, -, X2, ⟨Lc2, hQ2, l2, y2, z2⟩, st2⟩ := Jvm.LawKit.callS X1 hx (y := (⟨"java/lang/Math", "min", "(II)I"⟩ : MethodName)) hown (mvT hZ (hw _ (List.mem_of_getElem? (i := 0) rfl))) (mvT hZ (hw _ (List.mem_of_getElem? (i := 1) rfl))) (mvT hZ (hw _ (List.mem_of_getElem? (i := 2) rfl))) (mvT hZ (hw _ (List.mem_of_getElem? (i := 3) rfl))) (by decide) (backOf (W := 0) (rm1 l Z aZ hw [] (f1 p0 p1) p2 h0 n0 Z0 ) hZ (hw _ (List.mem_of_getElem? (i := 3) rfl)) (hw _ (List.mem_of_getElem? (i := 2) rfl)) (by decide) (by decide)) (g := (mkF m 6 (la0_0 p0 p1 p2 p3 p4 p5) [(.int p2), (.int (f1 p0 p1))])) rfl (by rw [hml]; rfl) (argsL := [(.int (f1 p0 p1)), (.int p2)]) (rest := []) (lenOf pd__II_I rfl) rfl (by show 2 * 0 + _ ≤ _; exact Nat.le_of_eq rfl) (hb hby at_6) (fun _ _ => ⟨rfl, e1, (by decide : 0 + 0 ≤ _), (by decide : 0 + 0 ≤ _)⟩)
  dsimp only [Pt.U, Pt.locs, Pt.cells, Pt.slots] at X2 l2 y2 z2 st2 hQ2
  subst l2 y2 z2
  obtain ⟨rfl, N2q, e2⟩ := hQ2
  have N2 := Fr.app N1 N2q
  refine OEnd.go (g' := (mkF m 9 (la0_0 p0 p1 p2 p3 p4 p5) [(.int (f1 (f1 p0 p1) p2))])) st2 ?_
  refine OEnd.go (T' := T2) (g' := (mkF m 13 (la0_1 p0 p1 p2 p3 p4 p5) [(.int p1), (.int p0)])) (fun t k => ?_) ?_
  · show Steps p.tables e below (T2.setTop (mkF m 9 (la0_0 p0 p1 p2 p3 p4 p5) [(.int (f1 (f1 p0 p1) p2))])) t
    refine XS.istore X2.here hx rfl (hb hby at_9) rfl (l' := (la0_1 p0 p1 p2 p3 p4 p5)) rfl ?_
    show Steps p.tables e below (T2.setTop (mkF m 11 (la0_1 p0 p1 p2 p3 p4 p5) [])) t
    refine XS.iloadN X2.here hx rfl (hb hby at_11) rfl ?_
    show Steps p.tables e below (T2.setTop (mkF m 12 (la0_1 p0 p1 p2 p3 p4 p5) [(.int p0)])) t
    refine XS.iloadN X2.here hx rfl (hb hby at_12) rfl ?_
    show Steps p.tables e below (T2.setTop (mkF m 13 (la0_1 p0 p1 p2 p3 p4 p5) [(.int p1), (.int p0)])) t
    exact k
  obtain ⟨_, _, ⟨T3, L3, k3, n3⟩, -, X3, ⟨Lc3, hQ3, l3, y3, z3⟩, st3⟩ := Jvm.LawKit.callS X2 hx (y := (⟨"java/lang/Math", "max", "(II)I"⟩ : MethodName)) hown (mvT hZ (hw _ (List.mem_of_getElem? (i := 4) rfl))) (mvT hZ (hw _ (List.mem_of_getElem? (i := 5) rfl))) (mvT hZ (hw _ (List.mem_of_getElem? (i := 2) rfl))) (mvT hZ (hw _ (List.mem_of_getElem? (i := 6) rfl))) (by decide) (backOf (W := 0) (rm2 l Z aZ hw [] p0 p1 h0 n0 Z0 ) hZ (hw _ (List.mem_of_getElem? (i := 6) rfl)) (hw _ (List.mem_of_getElem? (i := 2) rfl)) (by decide) (by decide)) (g := (mkF m 13 (la0_1 p0 p1 p2 p3 p4 p5) [(.int p1), (.int p0)])) rfl (by rw [hml]; rfl) (argsL := [(.int p0), (.int p1)]) (rest := []) (lenOf pd__II_I rfl) rfl (by show 2 * 0 + _ ≤ _; exact Nat.le_of_eq rfl) (hb hby at_13) (fun _ _ => ⟨rfl, e2, (by decide : 0 + 0 ≤ _), (by decide : 0 + 0 ≤ _)⟩)
  dsimp only [Pt.U, Pt.locs, Pt.cells, Pt.slots] at X3 l3 y3 z3 st3 hQ3
  subst l3 y3 z3
  obtain ⟨rfl, N3q, e3⟩ := hQ3
  have N3 := Fr.app N2 N3q
  refine OEnd.go (g' := (mkF m 16 (la0_1 p0 p1 p2 p3 p4 p5) [(.int (f2 p0 p1))])) st3 ?_
  refine OEnd.go (T' := T3) (g' := (mkF m 17 (la0_1 p0 p1 p2 p3 p4 p5) [(.int p2), (.int (f2 p0 p1))])) (fun t k => ?_) ?_
  · show Steps p.tables e below (T3.setTop (mkF m 16 (la0_1 p0 p1 p2 p3 p4 p5) [(.int (f2 p0 p1))])) t
    refine XS.iloadN X3.here hx rfl (hb hby at_16) rfl ?_
    show Steps p.tables e below (T3.setTop (mkF m 17 (la0_1 p0 p1 p2 p3 p4 p5) [(.int p2), (.int (f2 p0 p1))])) t
    exact k
  obtain ⟨_, _, ⟨T4, L4, k4, n4⟩, -, X4, ⟨Lc4, hQ4, l4, y4, z4⟩, st4⟩ := Jvm.LawKit.callS X3 hx (y := (⟨"java/lang/Math", "max", "(II)I"⟩ : MethodName)) hown (mvT hZ (hw _ (List.mem_of_getElem? (i := 4) rfl))) (mvT hZ (hw _ (List.mem_of_getElem? (i := 5) rfl))) (mvT hZ (hw _ (List.mem_of_getElem? (i := 2) rfl))) (mvT hZ (hw _ (List.mem_of_getElem? (i := 6) rfl))) (by decide) (backOf (W := 0) (rm2 l Z aZ hw [] (f2 p0 p1) p2 h0 n0 Z0 ) hZ (hw _ (List.mem_of_getElem? (i := 6) rfl)) (hw _ (List.mem_of_getElem? (i := 2) rfl)) (by decide) (by decide)) (g := (mkF m 17 (la0_1 p0 p1 p2 p3 p4 p5) [(.int p2), (.int (f2 p0 p1))])) rfl (by rw [hml]; rfl) (argsL := [(.int (f2 p0 p1)), (.int p2)]) (rest := []) (lenOf pd__II_I rfl) rfl (by show 2 * 0 + _ ≤ _; exact Nat.le_of_eq rfl) (hb hby at_17) (fun _ _ => ⟨rfl, e3, (by decide : 0 + 0 ≤ _), (by decide : 0 + 0 ≤ _)⟩)
  dsimp only [Pt.U, Pt.locs, Pt.cells, Pt.slots] at X4 l4 y4 z4 st4 hQ4
  subst l4 y4 z4
  obtain ⟨rfl, N4q, e4⟩ := hQ4
  have N4 := Fr.app N3 N4q
  refine OEnd.go (g' := (mkF m 20 (la0_1 p0 p1 p2 p3 p4 p5) [(.int (f2 (f2 p0 p1) p2))])) st4 ?_
  refine OEnd.go (T' := T4) (g' := (mkF m 24 (la0_2 p0 p1 p2 p3 p4 p5) [(.int p1), (.int p0)])) (fun t k => ?_) ?_
  · show Steps p.tables e below (T4.setTop (mkF m 20 (la0_1 p0 p1 p2 p3 p4 p5) [(.int (f2 (f2 p0 p1) p2))])) t
    refine XS.istore X4.here hx rfl (hb hby at_20) rfl (l' := (la0_2 p0 p1 p2 p3 p4 p5)) rfl ?_
    show Steps p.tables e below (T4.setTop (mkF m 22 (la0_2 p0 p1 p2 p3 p4 p5) [])) t
    refine XS.iloadN X4.here hx rfl (hb hby at_22) rfl ?_
    show Steps p.tables e below (T4.setTop (mkF m 23 (la0_2 p0 p1 p2 p3 p4 p5) [(.int p0)])) t
    refine XS.iloadN X4.here hx rfl (hb hby at_23) rfl ?_
    show Steps p.tables e below (T4.setTop (mkF m 24 (la0_2 p0 p1 p2 p3 p4 p5) [(.int p1), (.int p0)])) t
    exact k
  obtain ⟨_, _, ⟨T5, L5, k5, n5⟩, -, X5, ⟨Lc5, hQ5, l5, y5, z5⟩, st5⟩ := Jvm.LawKit.callS X4 hx (y := (⟨"java/lang/Math", "min", "(II)I"⟩ : MethodName)) hown (mvT hZ (hw _ (List.mem_of_getElem? (i := 0) rfl))) (mvT hZ (hw _ (List.mem_of_getElem? (i := 1) rfl))) (mvT hZ (hw _ (List.mem_of_getElem? (i := 2) rfl))) (mvT hZ (hw _ (List.mem_of_getElem? (i := 3) rfl))) (by decide) (backOf (W := 0) (rm1 l Z aZ hw [] p0 p1 h0 n0 Z0 ) hZ (hw _ (List.mem_of_getElem? (i := 3) rfl)) (hw _ (List.mem_of_getElem? (i := 2) rfl)) (by decide) (by decide)) (g := (mkF m 24 (la0_2 p0 p1 p2 p3 p4 p5) [(.int p1), (.int p0)])) rfl (by rw [hml]; rfl) (argsL := [(.int p0), (.int p1)]) (rest := []) (lenOf pd__II_I rfl) rfl (by show 2 * 0 + _ ≤ _; exact Nat.le_of_eq rfl) (hb hby at_24) (fun _ _ => ⟨rfl, e4, (by decide : 0 + 0 ≤ _), (by decide : 0 + 0 ≤ _)⟩)
  dsimp only [Pt.U, Pt.locs, Pt.cells, Pt.slots] at X5 l5 y5 z5 st5 hQ5
  subst l5 y5 z5
  obtain ⟨rfl, N5q, e5⟩ := hQ5
  have N5 := Fr.app N4 N5q
  refine OEnd.go (g' := (mkF m 27 (la0_2 p0 p1 p2 p3 p4 p5) [(.int (f1 p0 p1))])) st5 ?_
  refine OEnd.go (T' := T5) (g' := (mkF m 29 (la0_2 p0 p1 p2 p3 p4 p5) [(.int p1), (.int p0), (.int (f1 p0 p1))])) (fun t k => ?_) ?_
  · show Steps p.tables e below (T5.setTop (mkF m 27 (la0_2 p0 p1 p2 p3 p4 p5) [(.int (f1 p0 p1))])) t
    refine XS.iloadN X5.here hx rfl (hb hby at_27) rfl ?_
    show Steps p.tables e below (T5.setTop (mkF m 28 (la0_2 p0 p1 p2 p3 p4 p5) [(.int p0), (.int (f1 p0 p1))])) t
    refine XS.iloadN X5.here hx rfl (hb hby at_28) rfl ?_
    show Steps p.tables e below (T5.setTop (mkF m 29 (la0_2 p0 p1 p2 p3 p4 p5) [(.int p1), (.int p0), (.int (f1 p0 p1))])) t
    exact k
  obtain ⟨_, _, ⟨T6, L6, k6, n6⟩, -, X6, ⟨Lc6, hQ6, l6, y6, z6⟩, st6⟩ := Jvm.LawKit.callS X5 hx (y := (⟨"java/lang/Math", "max", "(II)I"⟩ : MethodName)) hown (mvT hZ (hw _ (List.mem_of_getElem? (i := 4) rfl))) (mvT hZ (hw _ (List.mem_of_getElem? (i := 5) rfl))) (mvT hZ (hw _ (List.mem_of_getElem? (i := 2) rfl))) (mvT hZ (hw _ (List.mem_of_getElem? (i := 6) rfl))) (by decide) (backOf (W := 1) (rm2 l Z aZ hw [] p0 p1 h0 n0 Z0 ) hZ (hw _ (List.mem_of_getElem? (i := 6) rfl)) (hw _ (List.mem_of_getElem? (i := 2) rfl)) (by decide) (by decide)) (g := (mkF m 29 (la0_2 p0 p1 p2 p3 p4 p5) [(.int p1), (.int p0), (.int (f1 p0 p1))])) rfl (by rw [hml]; rfl) (argsL := [(.int p0), (.int p1)]) (rest := [(.int (f1 p0 p1))]) (lenOf pd__II_I rfl) rfl (by show 2 * 0 + _ ≤ _; exact Nat.le_of_eq rfl) (hb hby at_29) (fun _ _ => ⟨rfl, e5, (by decide : 0 + 0 ≤ _), (by decide : 0 + 0 ≤ _)⟩)
  dsimp only [Pt.U, Pt.locs, Pt.cells, Pt.slots] at X6 l6 y6 z6 st6 hQ6
  subst l6 y6 z6
  obtain ⟨rfl, N6q, e6⟩ := hQ6
  have N6 := Fr.app N5 N6q
  refine OEnd.go (g' := (mkF m 32 (la0_2 p0 p1 p2 p3 p4 p5) [(.int (f2 p0 p1)), (.int (f1 p0 p1))])) st6 ?_
  refine OEnd.go (T' := T6) (g' := (mkF m 33 (la0_2 p0 p1 p2 p3 p4 p5) [(.int p2), (.int (f2 p0 p1)), (.int (f1 p0 p1))])) (fun t k => ?_) ?_
  · show Steps p.tables e below (T6.setTop (mkF m 32 (la0_2 p0 p1 p2 p3 p4 p5) [(.int (f2 p0 p1)), (.int (f1 p0 p1))])) t
    refine XS.iloadN X6.here hx rfl (hb hby at_32) rfl ?_
    show Steps p.tables e below (T6.setTop (mkF m 33 (la0_2 p0 p1 p2 p3 p4 p5) [(.int p2), (.int (f2 p0 p1)), (.int (f1 p0 p1))])) t
    exact k
  obtain ⟨_, _, ⟨T7, L7, k7, n7⟩, -, X7, ⟨Lc7, hQ7, l7, y7, z7⟩, st7⟩ := Jvm.LawKit.callS X6 hx (y := (⟨"java/lang/Math", "min", "(II)I"⟩ : MethodName)) hown (mvT hZ (hw _ (List.mem_of_getElem? (i := 0) rfl))) (mvT hZ (hw _ (List.mem_of_getElem? (i := 1) rfl))) (mvT hZ (hw _ (List.mem_of_getElem? (i := 2) rfl))) (mvT hZ (hw _ (List.mem_of_getElem? (i := 3) rfl))) (by decide) (backOf (W := 1) (rm1 l Z aZ hw [] (f2 p0 p1) p2 h0 n0 Z0 ) hZ (hw _ (List.mem_of_getElem? (i := 3) rfl)) (hw _ (List.mem_of_getElem? (i := 2) rfl)) (by decide) (by decide)) (g := (mkF m 33 (la0_2 p0 p1 p2 p3 p4 p5) [(.int p2), (.int (f2 p0 p1)), (.int (f1 p0 p1))])) rfl (by rw [hml]; rfl) (argsL := [(.int (f2 p0 p1)), (.int p2)]) (rest := [(.int (f1 p0 p1))]) (lenOf pd__II_I rfl) rfl (by show 2 * 0 + _ ≤ _; exact Nat.le_of_eq rfl) (hb hby at_33) (fun _ _ => ⟨rfl, e6, (by decide : 0 + 0 ≤ _), (by decide : 0 + 0 ≤ _)⟩)
  dsimp only [Pt.U, Pt.locs, Pt.cells, Pt.slots] at X7 l7 y7 z7 st7 hQ7
  subst l7 y7 z7
  obtain ⟨rfl, N7q, e7⟩ := hQ7
  have N7 := Fr.app N6 N7q
  refine OEnd.go (g' := (mkF m 36 (la0_2 p0 p1 p2 p3 p4 p5) [(.int (f1 (f2 p0 p1) p2)), (.int (f1 p0 p1))])) st7 ?_
  obtain ⟨_, _, ⟨T8, L8, k8, n8⟩, -, X8, ⟨Lc8, hQ8, l8, y8, z8⟩, st8⟩ := Jvm.LawKit.callS X7 hx (y := (⟨"java/lang/Math", "max", "(II)I"⟩ : MethodName)) hown (mvT hZ (hw _ (List.mem_of_getElem? (i := 4) rfl))) (mvT hZ (hw _ (List.mem_of_getElem? (i := 5) rfl))) (mvT hZ (hw _ (List.mem_of_getElem? (i := 2) rfl))) (mvT hZ (hw _ (List.mem_of_getElem? (i := 6) rfl))) (by decide) (backOf (W := 0) (rm2 l Z aZ hw [] (f1 p0 p1) (f1 (f2 p0 p1) p2) h0 n0 Z0 ) hZ (hw _ (List.mem_of_getElem? (i := 6) rfl)) (hw _ (List.mem_of_getElem? (i := 2) rfl)) (by decide) (by decide)) (g := (mkF m 36 (la0_2 p0 p1 p2 p3 p4 p5) [(.int (f1 (f2 p0 p1) p2)), (.int (f1 p0 p1))])) rfl (by rw [hml]; rfl) (argsL := [(.int (f1 p0 p1)), (.int (f1 (f2 p0 p1) p2))]) (rest := []) (lenOf pd__II_I rfl) rfl (by show 2 * 0 + _ ≤ _; exact Nat.le_of_eq rfl) (hb hby at_36) (fun _ _ => ⟨rfl, e7, (by decide : 0 + 0 ≤ _), (by decide : 0 + 0 ≤ _)⟩)
  dsimp only [Pt.U, Pt.locs, Pt.cells, Pt.slots] at X8 l8 y8 z8 st8 hQ8
  subst l8 y8 z8
  obtain ⟨rfl, N8q, e8⟩ := hQ8
  have N8 := Fr.app N7 N8q
  refine OEnd.go (g' := (mkF m 39 (la0_2 p0 p1 p2 p3 p4 p5) [(.int (f2 (f1 p0 p1) (f1 (f2 p0 p1) p2)))])) st8 ?_
  refine OEnd.go (T' := T8) (g' := (mkF m 54 (la0_4 p0 p1 p2 p3 p4 p5) [(.int (2 : Int32)), (.int (((p5.toUInt32 >>> ((2 : Int32) &&& 31).toUInt32).toInt32) &&& (3 : Int32)))])) (fun t k => ?_) ?_
  · show Steps p.tables e below (T8.setTop (mkF m 39 (la0_2 p0 p1 p2 p3 p4 p5) [(.int (f2 (f1 p0 p1) (f1 (f2 p0 p1) p2)))])) t
    refine XS.istore X8.here hx rfl (hb hby at_39) rfl (l' := (la0_3 p0 p1 p2 p3 p4 p5)) rfl ?_
    show Steps p.tables e below (T8.setTop (mkF m 41 (la0_3 p0 p1 p2 p3 p4 p5) [])) t
    refine XS.iload X8.here hx rfl (hb hby at_41) rfl ?_
    show Steps p.tables e below (T8.setTop (mkF m 43 (la0_3 p0 p1 p2 p3 p4 p5) [(.int p5)])) t
    refine XS.iconst X8.here hx rfl (hb hby at_43) ?_
    show Steps p.tables e below (T8.setTop (mkF m 44 (la0_3 p0 p1 p2 p3 p4 p5) [(.int (3 : Int32)), (.int p5)])) t
    refine XS.iand X8.here hx rfl (hb hby at_44) rfl ?_
    show Steps p.tables e below (T8.setTop (mkF m 45 (la0_3 p0 p1 p2 p3 p4 p5) [(.int (p5 &&& (3 : Int32)))])) t
    refine XS.istore X8.here hx rfl (hb hby at_45) rfl (l' := (la0_4 p0 p1 p2 p3 p4 p5)) rfl ?_
    show Steps p.tables e below (T8.setTop (mkF m 47 (la0_4 p0 p1 p2 p3 p4 p5) [])) t
    refine XS.iload X8.here hx rfl (hb hby at_47) rfl ?_
    show Steps p.tables e below (T8.setTop (mkF m 49 (la0_4 p0 p1 p2 p3 p4 p5) [(.int p5)])) t
    refine XS.iconst X8.here hx rfl (hb hby at_49) ?_
    show Steps p.tables e below (T8.setTop (mkF m 50 (la0_4 p0 p1 p2 p3 p4 p5) [(.int (2 : Int32)), (.int p5)])) t
    refine XS.iushr X8.here hx rfl (hb hby at_50) rfl ?_
    show Steps p.tables e below (T8.setTop (mkF m 51 (la0_4 p0 p1 p2 p3 p4 p5) [(.int ((p5.toUInt32 >>> ((2 : Int32) &&& 31).toUInt32).toInt32))])) t
    refine XS.iconst X8.here hx rfl (hb hby at_51) ?_
    show Steps p.tables e below (T8.setTop (mkF m 52 (la0_4 p0 p1 p2 p3 p4 p5) [(.int (3 : Int32)), (.int ((p5.toUInt32 >>> ((2 : Int32) &&& 31).toUInt32).toInt32))])) t
    refine XS.iand X8.here hx rfl (hb hby at_52) rfl ?_
    show Steps p.tables e below (T8.setTop (mkF m 53 (la0_4 p0 p1 p2 p3 p4 p5) [(.int (((p5.toUInt32 >>> ((2 : Int32) &&& 31).toUInt32).toInt32) &&& (3 : Int32)))])) t
    refine XS.iconst X8.here hx rfl (hb hby at_53) ?_
    show Steps p.tables e below (T8.setTop (mkF m 54 (la0_4 p0 p1 p2 p3 p4 p5) [(.int (2 : Int32)), (.int (((p5.toUInt32 >>> ((2 : Int32) &&& 31).toUInt32).toInt32) &&& (3 : Int32)))])) t
    exact k
  obtain ⟨_, _, ⟨T9, L9, k9, n9⟩, -, X9, ⟨Lc9, hQ9, l9, y9, z9⟩, st9⟩ := Jvm.LawKit.callS X8 hx (y := (⟨"java/lang/Math", "min", "(II)I"⟩ : MethodName)) hown (mvT hZ (hw _ (List.mem_of_getElem? (i := 0) rfl))) (mvT hZ (hw _ (List.mem_of_getElem? (i := 1) rfl))) (mvT hZ (hw _ (List.mem_of_getElem? (i := 2) rfl))) (mvT hZ (hw _ (List.mem_of_getElem? (i := 3) rfl))) (by decide) (backOf (W := 0) (rm1 l Z aZ hw [] (((p5.toUInt32 >>> ((2 : Int32) &&& 31).toUInt32).toInt32) &&& (3 : Int32)) (2 : Int32) h0 n0 Z0 ) hZ (hw _ (List.mem_of_getElem? (i := 3) rfl)) (hw _ (List.mem_of_getElem? (i := 2) rfl)) (by decide) (by decide)) (g := (mkF m 54 (la0_4 p0 p1 p2 p3 p4 p5) [(.int (2 : Int32)), (.int (((p5.toUInt32 >>> ((2 : Int32) &&& 31).toUInt32).toInt32) &&& (3 : Int32)))])) rfl (by rw [hml]; rfl) (argsL := [(.int (((p5.toUInt32 >>> ((2 : Int32) &&& 31).toUInt32).toInt32) &&& (3 : Int32))), (.int (2 : Int32))]) (rest := []) (lenOf pd__II_I rfl) rfl (by show 2 * 0 + _ ≤ _; exact Nat.le_of_eq rfl) (hb hby at_54) (fun _ _ => ⟨rfl, e8, (by decide : 0 + 0 ≤ _), (by decide : 0 + 0 ≤ _)⟩)
  dsimp only [Pt.U, Pt.locs, Pt.cells, Pt.slots] at X9 l9 y9 z9 st9 hQ9
  subst l9 y9 z9
  obtain ⟨rfl, N9q, e9⟩ := hQ9
  have N9 := Fr.app N8 N9q
  refine OEnd.go (g' := (mkF m 57 (la0_4 p0 p1 p2 p3 p4 p5) [(.int (f1 (((p5.toUInt32 >>> ((2 : Int32) &&& 31).toUInt32).toInt32) &&& (3 : Int32)) (2 : Int32)))])) st9 ?_
  refine OEnd.go (T' := T9) (g' := (mkF m 79 (la0_5 p0 p1 p2 p3 p4 p5) [(.int (((p5.toUInt32 >>> ((6 : Int32) &&& 31).toUInt32).toInt32) &&& (3 : Int32))), (.int (((p5.toUInt32 >>> ((4 : Int32) &&& 31).toUInt32).toInt32) &&& (3 : Int32))), (.int (f2 (f2 p0 p1) p2)), (.int (v0_39 p0 p1 p2 p3 p4 p5)), (.int (f1 (f1 p0 p1) p2)), (.int p3)])) (fun t k => ?_) ?_
  · show Steps p.tables e below (T9.setTop (mkF m 57 (la0_4 p0 p1 p2 p3 p4 p5) [(.int (f1 (((p5.toUInt32 >>> ((2 : Int32) &&& 31).toUInt32).toInt32) &&& (3 : Int32)) (2 : Int32)))])) t
    refine XS.istore X9.here hx rfl (hb hby at_57) rfl (l' := (la0_5 p0 p1 p2 p3 p4 p5)) rfl ?_
    show Steps p.tables e below (T9.setTop (mkF m 59 (la0_5 p0 p1 p2 p3 p4 p5) [])) t
    refine XS.iloadN X9.here hx rfl (hb hby at_59) rfl ?_
    show Steps p.tables e below (T9.setTop (mkF m 60 (la0_5 p0 p1 p2 p3 p4 p5) [(.int p3)])) t
    refine XS.iload X9.here hx rfl (hb hby at_60) rfl ?_
    show Steps p.tables e below (T9.setTop (mkF m 62 (la0_5 p0 p1 p2 p3 p4 p5) [(.int (f1 (f1 p0 p1) p2)), (.int p3)])) t
    refine XS.iload X9.here hx rfl (hb hby at_62) rfl ?_
    show Steps p.tables e below (T9.setTop (mkF m 64 (la0_5 p0 p1 p2 p3 p4 p5) [(.int (v0_39 p0 p1 p2 p3 p4 p5)), (.int (f1 (f1 p0 p1) p2)), (.int p3)])) t
    refine XS.iload X9.here hx rfl (hb hby at_64) rfl ?_
    show Steps p.tables e below (T9.setTop (mkF m 66 (la0_5 p0 p1 p2 p3 p4 p5) [(.int (f2 (f2 p0 p1) p2)), (.int (v0_39 p0 p1 p2 p3 p4 p5)), (.int (f1 (f1 p0 p1) p2)), (.int p3)])) t
    refine XS.iload X9.here hx rfl (hb hby at_66) rfl ?_
    show Steps p.tables e below (T9.setTop (mkF m 68 (la0_5 p0 p1 p2 p3 p4 p5) [(.int p5), (.int (f2 (f2 p0 p1) p2)), (.int (v0_39 p0 p1 p2 p3 p4 p5)), (.int (f1 (f1 p0 p1) p2)), (.int p3)])) t
    refine XS.iconst X9.here hx rfl (hb hby at_68) ?_
    show Steps p.tables e below (T9.setTop (mkF m 69 (la0_5 p0 p1 p2 p3 p4 p5) [(.int (4 : Int32)), (.int p5), (.int (f2 (f2 p0 p1) p2)), (.int (v0_39 p0 p1 p2 p3 p4 p5)), (.int (f1 (f1 p0 p1) p2)), (.int p3)])) t
    refine XS.iushr X9.here hx rfl (hb hby at_69) rfl ?_
    show Steps p.tables e below (T9.setTop (mkF m 70 (la0_5 p0 p1 p2 p3 p4 p5) [(.int ((p5.toUInt32 >>> ((4 : Int32) &&& 31).toUInt32).toInt32)), (.int (f2 (f2 p0 p1) p2)), (.int (v0_39 p0 p1 p2 p3 p4 p5)), (.int (f1 (f1 p0 p1) p2)), (.int p3)])) t
    refine XS.iconst X9.here hx rfl (hb hby at_70) ?_
    show Steps p.tables e below (T9.setTop (mkF m 71 (la0_5 p0 p1 p2 p3 p4 p5) [(.int (3 : Int32)), (.int ((p5.toUInt32 >>> ((4 : Int32) &&& 31).toUInt32).toInt32)), (.int (f2 (f2 p0 p1) p2)), (.int (v0_39 p0 p1 p2 p3 p4 p5)), (.int (f1 (f1 p0 p1) p2)), (.int p3)])) t
    refine XS.iand X9.here hx rfl (hb hby at_71) rfl ?_
    show Steps p.tables e below (T9.setTop (mkF m 72 (la0_5 p0 p1 p2 p3 p4 p5) [(.int (((p5.toUInt32 >>> ((4 : Int32) &&& 31).toUInt32).toInt32) &&& (3 : Int32))), (.int (f2 (f2 p0 p1) p2)), (.int (v0_39 p0 p1 p2 p3 p4 p5)), (.int (f1 (f1 p0 p1) p2)), (.int p3)])) t
    refine XS.iload X9.here hx rfl (hb hby at_72) rfl ?_
    show Steps p.tables e below (T9.setTop (mkF m 74 (la0_5 p0 p1 p2 p3 p4 p5) [(.int p5), (.int (((p5.toUInt32 >>> ((4 : Int32) &&& 31).toUInt32).toInt32) &&& (3 : Int32))), (.int (f2 (f2 p0 p1) p2)), (.int (v0_39 p0 p1 p2 p3 p4 p5)), (.int (f1 (f1 p0 p1) p2)), (.int p3)])) t
    refine XS.bipush X9.here hx rfl (hb hby at_74) ?_
    show Steps p.tables e below (T9.setTop (mkF m 76 (la0_5 p0 p1 p2 p3 p4 p5) [(.int (6 : Int32)), (.int p5), (.int (((p5.toUInt32 >>> ((4 : Int32) &&& 31).toUInt32).toInt32) &&& (3 : Int32))), (.int (f2 (f2 p0 p1) p2)), (.int (v0_39 p0 p1 p2 p3 p4 p5)), (.int (f1 (f1 p0 p1) p2)), (.int p3)])) t
    refine XS.iushr X9.here hx rfl (hb hby at_76) rfl ?_
    show Steps p.tables e below (T9.setTop (mkF m 77 (la0_5 p0 p1 p2 p3 p4 p5) [(.int ((p5.toUInt32 >>> ((6 : Int32) &&& 31).toUInt32).toInt32)), (.int (((p5.toUInt32 >>> ((4 : Int32) &&& 31).toUInt32).toInt32) &&& (3 : Int32))), (.int (f2 (f2 p0 p1) p2)), (.int (v0_39 p0 p1 p2 p3 p4 p5)), (.int (f1 (f1 p0 p1) p2)), (.int p3)])) t
    refine XS.iconst X9.here hx rfl (hb hby at_77) ?_
    show Steps p.tables e below (T9.setTop (mkF m 78 (la0_5 p0 p1 p2 p3 p4 p5) [(.int (3 : Int32)), (.int ((p5.toUInt32 >>> ((6 : Int32) &&& 31).toUInt32).toInt32)), (.int (((p5.toUInt32 >>> ((4 : Int32) &&& 31).toUInt32).toInt32) &&& (3 : Int32))), (.int (f2 (f2 p0 p1) p2)), (.int (v0_39 p0 p1 p2 p3 p4 p5)), (.int (f1 (f1 p0 p1) p2)), (.int p3)])) t
    refine XS.iand X9.here hx rfl (hb hby at_78) rfl ?_
    show Steps p.tables e below (T9.setTop (mkF m 79 (la0_5 p0 p1 p2 p3 p4 p5) [(.int (((p5.toUInt32 >>> ((6 : Int32) &&& 31).toUInt32).toInt32) &&& (3 : Int32))), (.int (((p5.toUInt32 >>> ((4 : Int32) &&& 31).toUInt32).toInt32) &&& (3 : Int32))), (.int (f2 (f2 p0 p1) p2)), (.int (v0_39 p0 p1 p2 p3 p4 p5)), (.int (f1 (f1 p0 p1) p2)), (.int p3)])) t
    exact k
  obtain ⟨_, _, ⟨T10, L10, k10, n10⟩, -, X10, ⟨Lc10, hQ10, l10, y10, z10⟩, st10⟩ := Jvm.LawKit.callS X9 hx (y := (⟨"com/example/nuthatch/nuthatch/logic/DemandsWithinPinLaw", "pick", "(IIIIII)I"⟩ : MethodName)) hown (mvT hZ (hw _ (List.mem_of_getElem? (i := 7) rfl))) (mvT hZ (hw _ (List.mem_of_getElem? (i := 8) rfl))) (mvT hZ (hw _ (List.mem_of_getElem? (i := 9) rfl))) (mvT hZ (hw _ (List.mem_of_getElem? (i := 10) rfl))) (by decide) (backOf (W := 0) (rm3 l Z aZ hw [] p3 (f1 (f1 p0 p1) p2) (v0_39 p0 p1 p2 p3 p4 p5) (f2 (f2 p0 p1) p2) (((p5.toUInt32 >>> ((4 : Int32) &&& 31).toUInt32).toInt32) &&& (3 : Int32)) (((p5.toUInt32 >>> ((6 : Int32) &&& 31).toUInt32).toInt32) &&& (3 : Int32)) h0 n0 Z0 ) hZ (hw _ (List.mem_of_getElem? (i := 10) rfl)) (hw _ (List.mem_of_getElem? (i := 9) rfl)) (by decide) (by decide)) (g := (mkF m 79 (la0_5 p0 p1 p2 p3 p4 p5) [(.int (((p5.toUInt32 >>> ((6 : Int32) &&& 31).toUInt32).toInt32) &&& (3 : Int32))), (.int (((p5.toUInt32 >>> ((4 : Int32) &&& 31).toUInt32).toInt32) &&& (3 : Int32))), (.int (f2 (f2 p0 p1) p2)), (.int (v0_39 p0 p1 p2 p3 p4 p5)), (.int (f1 (f1 p0 p1) p2)), (.int p3)])) rfl (by rw [hml]; rfl) (argsL := [(.int p3), (.int (f1 (f1 p0 p1) p2)), (.int (v0_39 p0 p1 p2 p3 p4 p5)), (.int (f2 (f2 p0 p1) p2)), (.int (((p5.toUInt32 >>> ((4 : Int32) &&& 31).toUInt32).toInt32) &&& (3 : Int32))), (.int (((p5.toUInt32 >>> ((6 : Int32) &&& 31).toUInt32).toInt32) &&& (3 : Int32)))]) (rest := []) (lenOf pd__IIIIII_I rfl) rfl (by show 2 * 0 + _ ≤ _; exact Nat.le_of_eq rfl) (hb hby at_79) (fun _ _ => ⟨rfl, e9, (by decide : 0 + 0 ≤ _), (by decide : 0 + 0 ≤ _)⟩)
  dsimp only [Pt.U, Pt.locs, Pt.cells, Pt.slots] at X10 l10 y10 z10 st10 hQ10
  subst l10 y10 z10
  obtain ⟨rfl, N10q, e10⟩ := hQ10
  have N10 := Fr.app N9 N10q
  refine OEnd.go (g' := (mkF m 82 (la0_5 p0 p1 p2 p3 p4 p5) [(.int (f3 p3 (f1 (f1 p0 p1) p2) (v0_39 p0 p1 p2 p3 p4 p5) (f2 (f2 p0 p1) p2) (((p5.toUInt32 >>> ((4 : Int32) &&& 31).toUInt32).toInt32) &&& (3 : Int32)) (((p5.toUInt32 >>> ((6 : Int32) &&& 31).toUInt32).toInt32) &&& (3 : Int32))))])) st10 ?_
  refine OEnd.go (T' := T10) (g' := (mkF m 106 (la0_6 p0 p1 p2 p3 p4 p5) [(.int (((p5.toUInt32 >>> ((10 : Int32) &&& 31).toUInt32).toInt32) &&& (3 : Int32))), (.int (((p5.toUInt32 >>> ((8 : Int32) &&& 31).toUInt32).toInt32) &&& (3 : Int32))), (.int (f2 (f2 p0 p1) p2)), (.int (v0_39 p0 p1 p2 p3 p4 p5)), (.int (f1 (f1 p0 p1) p2)), (.int p4)])) (fun t k => ?_) ?_
  · show Steps p.tables e below (T10.setTop (mkF m 82 (la0_5 p0 p1 p2 p3 p4 p5) [(.int (f3 p3 (f1 (f1 p0 p1) p2) (v0_39 p0 p1 p2 p3 p4 p5) (f2 (f2 p0 p1) p2) (((p5.toUInt32 >>> ((4 : Int32) &&& 31).toUInt32).toInt32) &&& (3 : Int32)) (((p5.toUInt32 >>> ((6 : Int32) &&& 31).toUInt32).toInt32) &&& (3 : Int32))))])) t
    refine XS.istore X10.here hx rfl (hb hby at_82) rfl (l' := (la0_6 p0 p1 p2 p3 p4 p5)) rfl ?_
    show Steps p.tables e below (T10.setTop (mkF m 84 (la0_6 p0 p1 p2 p3 p4 p5) [])) t
    refine XS.iload X10.here hx rfl (hb hby at_84) rfl ?_
    show Steps p.tables e below (T10.setTop (mkF m 86 (la0_6 p0 p1 p2 p3 p4 p5) [(.int p4)])) t
    refine XS.iload X10.here hx rfl (hb hby at_86) rfl ?_
    show Steps p.tables e below (T10.setTop (mkF m 88 (la0_6 p0 p1 p2 p3 p4 p5) [(.int (f1 (f1 p0 p1) p2)), (.int p4)])) t
    refine XS.iload X10.here hx rfl (hb hby at_88) rfl ?_
    show Steps p.tables e below (T10.setTop (mkF m 90 (la0_6 p0 p1 p2 p3 p4 p5) [(.int (v0_39 p0 p1 p2 p3 p4 p5)), (.int (f1 (f1 p0 p1) p2)), (.int p4)])) t
    refine XS.iload X10.here hx rfl (hb hby at_90) rfl ?_
    show Steps p.tables e below (T10.setTop (mkF m 92 (la0_6 p0 p1 p2 p3 p4 p5) [(.int (f2 (f2 p0 p1) p2)), (.int (v0_39 p0 p1 p2 p3 p4 p5)), (.int (f1 (f1 p0 p1) p2)), (.int p4)])) t
    refine XS.iload X10.here hx rfl (hb hby at_92) rfl ?_
    show Steps p.tables e below (T10.setTop (mkF m 94 (la0_6 p0 p1 p2 p3 p4 p5) [(.int p5), (.int (f2 (f2 p0 p1) p2)), (.int (v0_39 p0 p1 p2 p3 p4 p5)), (.int (f1 (f1 p0 p1) p2)), (.int p4)])) t
    refine XS.bipush X10.here hx rfl (hb hby at_94) ?_
    show Steps p.tables e below (T10.setTop (mkF m 96 (la0_6 p0 p1 p2 p3 p4 p5) [(.int (8 : Int32)), (.int p5), (.int (f2 (f2 p0 p1) p2)), (.int (v0_39 p0 p1 p2 p3 p4 p5)), (.int (f1 (f1 p0 p1) p2)), (.int p4)])) t
    refine XS.iushr X10.here hx rfl (hb hby at_96) rfl ?_
    show Steps p.tables e below (T10.setTop (mkF m 97 (la0_6 p0 p1 p2 p3 p4 p5) [(.int ((p5.toUInt32 >>> ((8 : Int32) &&& 31).toUInt32).toInt32)), (.int (f2 (f2 p0 p1) p2)), (.int (v0_39 p0 p1 p2 p3 p4 p5)), (.int (f1 (f1 p0 p1) p2)), (.int p4)])) t
    refine XS.iconst X10.here hx rfl (hb hby at_97) ?_
    show Steps p.tables e below (T10.setTop (mkF m 98 (la0_6 p0 p1 p2 p3 p4 p5) [(.int (3 : Int32)), (.int ((p5.toUInt32 >>> ((8 : Int32) &&& 31).toUInt32).toInt32)), (.int (f2 (f2 p0 p1) p2)), (.int (v0_39 p0 p1 p2 p3 p4 p5)), (.int (f1 (f1 p0 p1) p2)), (.int p4)])) t
    refine XS.iand X10.here hx rfl (hb hby at_98) rfl ?_
    show Steps p.tables e below (T10.setTop (mkF m 99 (la0_6 p0 p1 p2 p3 p4 p5) [(.int (((p5.toUInt32 >>> ((8 : Int32) &&& 31).toUInt32).toInt32) &&& (3 : Int32))), (.int (f2 (f2 p0 p1) p2)), (.int (v0_39 p0 p1 p2 p3 p4 p5)), (.int (f1 (f1 p0 p1) p2)), (.int p4)])) t
    refine XS.iload X10.here hx rfl (hb hby at_99) rfl ?_
    show Steps p.tables e below (T10.setTop (mkF m 101 (la0_6 p0 p1 p2 p3 p4 p5) [(.int p5), (.int (((p5.toUInt32 >>> ((8 : Int32) &&& 31).toUInt32).toInt32) &&& (3 : Int32))), (.int (f2 (f2 p0 p1) p2)), (.int (v0_39 p0 p1 p2 p3 p4 p5)), (.int (f1 (f1 p0 p1) p2)), (.int p4)])) t
    refine XS.bipush X10.here hx rfl (hb hby at_101) ?_
    show Steps p.tables e below (T10.setTop (mkF m 103 (la0_6 p0 p1 p2 p3 p4 p5) [(.int (10 : Int32)), (.int p5), (.int (((p5.toUInt32 >>> ((8 : Int32) &&& 31).toUInt32).toInt32) &&& (3 : Int32))), (.int (f2 (f2 p0 p1) p2)), (.int (v0_39 p0 p1 p2 p3 p4 p5)), (.int (f1 (f1 p0 p1) p2)), (.int p4)])) t
    refine XS.iushr X10.here hx rfl (hb hby at_103) rfl ?_
    show Steps p.tables e below (T10.setTop (mkF m 104 (la0_6 p0 p1 p2 p3 p4 p5) [(.int ((p5.toUInt32 >>> ((10 : Int32) &&& 31).toUInt32).toInt32)), (.int (((p5.toUInt32 >>> ((8 : Int32) &&& 31).toUInt32).toInt32) &&& (3 : Int32))), (.int (f2 (f2 p0 p1) p2)), (.int (v0_39 p0 p1 p2 p3 p4 p5)), (.int (f1 (f1 p0 p1) p2)), (.int p4)])) t
    refine XS.iconst X10.here hx rfl (hb hby at_104) ?_
    show Steps p.tables e below (T10.setTop (mkF m 105 (la0_6 p0 p1 p2 p3 p4 p5) [(.int (3 : Int32)), (.int ((p5.toUInt32 >>> ((10 : Int32) &&& 31).toUInt32).toInt32)), (.int (((p5.toUInt32 >>> ((8 : Int32) &&& 31).toUInt32).toInt32) &&& (3 : Int32))), (.int (f2 (f2 p0 p1) p2)), (.int (v0_39 p0 p1 p2 p3 p4 p5)), (.int (f1 (f1 p0 p1) p2)), (.int p4)])) t
    refine XS.iand X10.here hx rfl (hb hby at_105) rfl ?_
    show Steps p.tables e below (T10.setTop (mkF m 106 (la0_6 p0 p1 p2 p3 p4 p5) [(.int (((p5.toUInt32 >>> ((10 : Int32) &&& 31).toUInt32).toInt32) &&& (3 : Int32))), (.int (((p5.toUInt32 >>> ((8 : Int32) &&& 31).toUInt32).toInt32) &&& (3 : Int32))), (.int (f2 (f2 p0 p1) p2)), (.int (v0_39 p0 p1 p2 p3 p4 p5)), (.int (f1 (f1 p0 p1) p2)), (.int p4)])) t
    exact k
  obtain ⟨_, _, ⟨T11, L11, k11, n11⟩, -, X11, ⟨Lc11, hQ11, l11, y11, z11⟩, st11⟩ := Jvm.LawKit.callS X10 hx (y := (⟨"com/example/nuthatch/nuthatch/logic/DemandsWithinPinLaw", "pick", "(IIIIII)I"⟩ : MethodName)) hown (mvT hZ (hw _ (List.mem_of_getElem? (i := 7) rfl))) (mvT hZ (hw _ (List.mem_of_getElem? (i := 8) rfl))) (mvT hZ (hw _ (List.mem_of_getElem? (i := 9) rfl))) (mvT hZ (hw _ (List.mem_of_getElem? (i := 10) rfl))) (by decide) (backOf (W := 0) (rm3 l Z aZ hw [] p4 (f1 (f1 p0 p1) p2) (v0_39 p0 p1 p2 p3 p4 p5) (f2 (f2 p0 p1) p2) (((p5.toUInt32 >>> ((8 : Int32) &&& 31).toUInt32).toInt32) &&& (3 : Int32)) (((p5.toUInt32 >>> ((10 : Int32) &&& 31).toUInt32).toInt32) &&& (3 : Int32)) h0 n0 Z0 ) hZ (hw _ (List.mem_of_getElem? (i := 10) rfl)) (hw _ (List.mem_of_getElem? (i := 9) rfl)) (by decide) (by decide)) (g := (mkF m 106 (la0_6 p0 p1 p2 p3 p4 p5) [(.int (((p5.toUInt32 >>> ((10 : Int32) &&& 31).toUInt32).toInt32) &&& (3 : Int32))), (.int (((p5.toUInt32 >>> ((8 : Int32) &&& 31).toUInt32).toInt32) &&& (3 : Int32))), (.int (f2 (f2 p0 p1) p2)), (.int (v0_39 p0 p1 p2 p3 p4 p5)), (.int (f1 (f1 p0 p1) p2)), (.int p4)])) rfl (by rw [hml]; rfl) (argsL := [(.int p4), (.int (f1 (f1 p0 p1) p2)), (.int (v0_39 p0 p1 p2 p3 p4 p5)), (.int (f2 (f2 p0 p1) p2)), (.int (((p5.toUInt32 >>> ((8 : Int32) &&& 31).toUInt32).toInt32) &&& (3 : Int32))), (.int (((p5.toUInt32 >>> ((10 : Int32) &&& 31).toUInt32).toInt32) &&& (3 : Int32)))]) (rest := []) (lenOf pd__IIIIII_I rfl) rfl (by show 2 * 0 + _ ≤ _; exact Nat.le_of_eq rfl) (hb hby at_106) (fun _ _ => ⟨rfl, e10, (by decide : 0 + 0 ≤ _), (by decide : 0 + 0 ≤ _)⟩)
  dsimp only [Pt.U, Pt.locs, Pt.cells, Pt.slots] at X11 l11 y11 z11 st11 hQ11
  subst l11 y11 z11
  obtain ⟨rfl, N11q, e11⟩ := hQ11
  have N11 := Fr.app N10 N11q
  refine OEnd.go (g' := (mkF m 109 (la0_6 p0 p1 p2 p3 p4 p5) [(.int (f3 p4 (f1 (f1 p0 p1) p2) (v0_39 p0 p1 p2 p3 p4 p5) (f2 (f2 p0 p1) p2) (((p5.toUInt32 >>> ((8 : Int32) &&& 31).toUInt32).toInt32) &&& (3 : Int32)) (((p5.toUInt32 >>> ((10 : Int32) &&& 31).toUInt32).toInt32) &&& (3 : Int32))))])) st11 ?_
  refine OEnd.go (T' := T11) (g' := (mkF m 111 (la0_7 p0 p1 p2 p3 p4 p5) [])) (fun t k => ?_) ?_
  · show Steps p.tables e below (T11.setTop (mkF m 109 (la0_6 p0 p1 p2 p3 p4 p5) [(.int (f3 p4 (f1 (f1 p0 p1) p2) (v0_39 p0 p1 p2 p3 p4 p5) (f2 (f2 p0 p1) p2) (((p5.toUInt32 >>> ((8 : Int32) &&& 31).toUInt32).toInt32) &&& (3 : Int32)) (((p5.toUInt32 >>> ((10 : Int32) &&& 31).toUInt32).toInt32) &&& (3 : Int32))))])) t
    refine XS.istore X11.here hx rfl (hb hby at_109) rfl (l' := (la0_7 p0 p1 p2 p3 p4 p5)) rfl ?_
    show Steps p.tables e below (T11.setTop (mkF m 111 (la0_7 p0 p1 p2 p3 p4 p5) [])) t
    exact k
  obtain ⟨b0_113, T12, h12, L12, X12, e12, N12, ⟨u12_0, u12_1, u12_2, u12_3⟩, st12⟩ : ORchB p l e room_1 s m #[(.int p0), (.int p1), (.int p2), (.int p3), (.int p4), (.int p5)] below meth c n0 T11 (mkF m 111 (la0_7 p0 p1 p2 p3 p4 p5) []) (fun b0_113 => (mkF m 152 (la0_24 p0 p1 p2 p3 p4 p5 b0_113) [])) 1 3 (fun h b0_113 => n0 ≤ b0_113 ∧ h0.size ≤ b0_113 ∧ Keep h0 h [] ∧ OArr Z h b0_113 .int (p5 &&& (3 : Int32)) (List.map Value.int (own_t3 (p5 &&& (3 : Int32)) (f1 (f1 p0 p1) p2) (v0_39 p0 p1 p2 p3 p4 p5) (f2 (f2 p0 p1) p2))) (.int (0 : Int32))) := by
    have KR12 : Keep h0 h0 [] := Keep.refl _ _
    rcases (own_four p5) with hs13 | hs13 | hs13 | hs13
    · skip
      refine ORchB.go (T' := T11) (g' := (mkF m 111 (la0_8 p0 p1 p2 p3 p4 p5) [])) (fun t k => (own_k (f := fun (z : Int32) => mkF m 111 #[.val (.int p0), .val (.int p1), .val (.int p2), .val (.int p3), .val (.int p4), .val (.int p5), .val (.int (f1 (f1 p0 p1) p2)), .val (.int (f2 (f2 p0 p1) p2)), .val (.int (v0_39 p0 p1 p2 p3 p4 p5)), .val (.int z), .val (.int (v0_57 p0 p1 p2 p3 p4 p5)), .val (.int (v0_82 p0 p1 p2 p3 p4 p5)), .val (.int (v0_109 p0 p1 p2 p3 p4 p5)), .unset, .unset, .unset] []) hs13.symm k)) ?_
      refine ORchB.go (T' := T11) (g' := (mkF m 113 (la0_8 p0 p1 p2 p3 p4 p5) [(.int (0 : Int32))])) (fun t k => ?_) ?_
      · show Steps p.tables e below (T11.setTop (mkF m 111 (la0_8 p0 p1 p2 p3 p4 p5) [])) t
        refine XS.iload X11.here hx rfl (hb hby at_111) rfl ?_
        show Steps p.tables e below (T11.setTop (mkF m 113 (la0_8 p0 p1 p2 p3 p4 p5) [(.int (0 : Int32))])) t
        exact k
      obtain ⟨T14, h14, k14, X14, e14, E14, A14, st14⟩ := newP X11 hx hZ (hw _ (List.mem_of_getElem? (i := 11) rfl)) e11 (g := (mkF m 113 (la0_8 p0 p1 p2 p3 p4 p5) [(.int (0 : Int32))])) rfl (hb hby at_113) rfl (by decide) (cap := 3) (by decide) (by decide) (by decide) (by decide)
      obtain ⟨b0_113, g14⟩ : ∃ z, z = h0.size := ⟨_, rfl⟩
      rw [← g14] at A14 st14
      have gle_b0_113 : n0 ≤ b0_113 := Nat.le_trans Z0 (Nat.le_of_eq g14.symm)
      have sz_b0_113 : h0.size ≤ b0_113 := Nat.le_trans KR12.1 (Nat.le_of_eq g14.symm)
      have Z14 : n0 ≤ h14.size := Nat.le_trans Z0 E14.1
      have K14 : Keep h0 h14 [] := KR12.ext E14
      have V14 : OArr Z h14 b0_113 .int (0 : Int32) [] (.int (0 : Int32)) := ⟨_, Arv.new A14 (by decide)⟩
      refine ORchB.go (g' := (mkF m 115 (la0_8 p0 p1 p2 p3 p4 p5) [(.ref b0_113)])) st14 ?_
      refine ORchB.go (T' := T14) (g' := (mkF m 152 (la0_9 p0 p1 p2 p3 p4 p5 b0_113) [])) (fun t k => ?_) ?_
      · show Steps p.tables e below (T14.setTop (mkF m 115 (la0_8 p0 p1 p2 p3 p4 p5) [(.ref b0_113)])) t
        refine XS.astore X14.here hx rfl (hb hby at_115) rfl rfl (l' := (la0_9 p0 p1 p2 p3 p4 p5 b0_113)) rfl ?_
        show Steps p.tables e below (T14.setTop (mkF m 117 (la0_9 p0 p1 p2 p3 p4 p5 b0_113) [])) t
        refine XS.iload X14.here hx rfl (hb hby at_117) rfl ?_
        show Steps p.tables e below (T14.setTop (mkF m 119 (la0_9 p0 p1 p2 p3 p4 p5 b0_113) [(.int (0 : Int32))])) t
        refine XS.ifYes X14.here hx rfl (pc0 := 119) (pc' := 128) rfl (hb hby at_119) rfl ((if0 _ _).trans (flt ((by decide))).2.2.2) (by decide) (by decide) ?_
        show Steps p.tables e below (T14.setTop (mkF m 128 (la0_9 p0 p1 p2 p3 p4 p5 b0_113) [])) t
        refine XS.iload X14.here hx rfl (hb hby at_128) rfl ?_
        show Steps p.tables e below (T14.setTop (mkF m 130 (la0_9 p0 p1 p2 p3 p4 p5 b0_113) [(.int (0 : Int32))])) t
        refine XS.iconst X14.here hx rfl (hb hby at_130) ?_
        show Steps p.tables e below (T14.setTop (mkF m 131 (la0_9 p0 p1 p2 p3 p4 p5 b0_113) [(.int (1 : Int32)), (.int (0 : Int32))])) t
        refine XS.icmpYes X14.here hx rfl (pc0 := 131) (pc' := 140) rfl (hb hby at_131) rfl (flt ((by decide))).2.2.2 (by decide) (by decide) ?_
        show Steps p.tables e below (T14.setTop (mkF m 140 (la0_9 p0 p1 p2 p3 p4 p5 b0_113) [])) t
        refine XS.iload X14.here hx rfl (hb hby at_140) rfl ?_
        show Steps p.tables e below (T14.setTop (mkF m 142 (la0_9 p0 p1 p2 p3 p4 p5 b0_113) [(.int (0 : Int32))])) t
        refine XS.iconst X14.here hx rfl (hb hby at_142) ?_
        show Steps p.tables e below (T14.setTop (mkF m 143 (la0_9 p0 p1 p2 p3 p4 p5 b0_113) [(.int (2 : Int32)), (.int (0 : Int32))])) t
        refine XS.icmpYes X14.here hx rfl (pc0 := 143) (pc' := 152) rfl (hb hby at_143) rfl (flt ((by decide))).2.2.2 (by decide) (by decide) ?_
        show Steps p.tables e below (T14.setTop (mkF m 152 (la0_9 p0 p1 p2 p3 p4 p5 b0_113) [])) t
        exact k
      exact ⟨_, _, _, _, X14, e14, N11, ⟨gle_b0_113, sz_b0_113, (own_at rfl (P := fun h => Keep h0 h []) K14), (by rw [hs13]; exact V14)⟩, fun t k => (own_k (f := fun (z : Int32) => mkF m 152 #[.val (.int p0), .val (.int p1), .val (.int p2), .val (.int p3), .val (.int p4), .val (.int p5), .val (.int (f1 (f1 p0 p1) p2)), .val (.int (f2 (f2 p0 p1) p2)), .val (.int (v0_39 p0 p1 p2 p3 p4 p5)), .val (.int z), .val (.int (v0_57 p0 p1 p2 p3 p4 p5)), .val (.int (v0_82 p0 p1 p2 p3 p4 p5)), .val (.int (v0_109 p0 p1 p2 p3 p4 p5)), .val (.ref b0_113), .unset, .unset] []) hs13 k)⟩
    · skip
      refine ORchB.go (T' := T11) (g' := (mkF m 111 (la0_10 p0 p1 p2 p3 p4 p5) [])) (fun t k => (own_k (f := fun (z : Int32) => mkF m 111 #[.val (.int p0), .val (.int p1), .val (.int p2), .val (.int p3), .val (.int p4), .val (.int p5), .val (.int (f1 (f1 p0 p1) p2)), .val (.int (f2 (f2 p0 p1) p2)), .val (.int (v0_39 p0 p1 p2 p3 p4 p5)), .val (.int z), .val (.int (v0_57 p0 p1 p2 p3 p4 p5)), .val (.int (v0_82 p0 p1 p2 p3 p4 p5)), .val (.int (v0_109 p0 p1 p2 p3 p4 p5)), .unset, .unset, .unset] []) hs13.symm k)) ?_
      refine ORchB.go (T' := T11) (g' := (mkF m 113 (la0_10 p0 p1 p2 p3 p4 p5) [(.int (1 : Int32))])) (fun t k => ?_) ?_
      · show Steps p.tables e below (T11.setTop (mkF m 111 (la0_10 p0 p1 p2 p3 p4 p5) [])) t
        refine XS.iload X11.here hx rfl (hb hby at_111) rfl ?_
        show Steps p.tables e below (T11.setTop (mkF m 113 (la0_10 p0 p1 p2 p3 p4 p5) [(.int (1 : Int32))])) t
        exact k
      obtain ⟨T15, h15, k15, X15, e15, E15, A15, st15⟩ := newP X11 hx hZ (hw _ (List.mem_of_getElem? (i := 11) rfl)) e11 (g := (mkF m 113 (la0_10 p0 p1 p2 p3 p4 p5) [(.int (1 : Int32))])) rfl (hb hby at_113) rfl (by decide) (cap := 3) (by decide) (by decide) (by decide) (by decide)
      obtain ⟨b0_113, g15⟩ : ∃ z, z = h0.size := ⟨_, rfl⟩
      rw [← g15] at A15 st15
      have gle_b0_113 : n0 ≤ b0_113 := Nat.le_trans Z0 (Nat.le_of_eq g15.symm)
      have sz_b0_113 : h0.size ≤ b0_113 := Nat.le_trans KR12.1 (Nat.le_of_eq g15.symm)
      have Z15 : n0 ≤ h15.size := Nat.le_trans Z0 E15.1
      have K15 : Keep h0 h15 [] := KR12.ext E15
      have V15 : OArr Z h15 b0_113 .int (1 : Int32) [(.int (0 : Int32))] (.int (0 : Int32)) := ⟨_, (Arv.new A15 (by decide)).pad (pad_rep [] (.int (0 : Int32)) 1)⟩
      refine ORchB.go (g' := (mkF m 115 (la0_10 p0 p1 p2 p3 p4 p5) [(.ref b0_113)])) st15 ?_
      refine ORchB.go (T' := T15) (g' := (mkF m 127 (la0_11 p0 p1 p2 p3 p4 p5 b0_113) [(.int (f1 (f1 p0 p1) p2)), (.int (0 : Int32)), (.ref b0_113)])) (fun t k => ?_) ?_
      · show Steps p.tables e below (T15.setTop (mkF m 115 (la0_10 p0 p1 p2 p3 p4 p5) [(.ref b0_113)])) t
        refine XS.astore X15.here hx rfl (hb hby at_115) rfl rfl (l' := (la0_11 p0 p1 p2 p3 p4 p5 b0_113)) rfl ?_
        show Steps p.tables e below (T15.setTop (mkF m 117 (la0_11 p0 p1 p2 p3 p4 p5 b0_113) [])) t
        refine XS.iload X15.here hx rfl (hb hby at_117) rfl ?_
        show Steps p.tables e below (T15.setTop (mkF m 119 (la0_11 p0 p1 p2 p3 p4 p5 b0_113) [(.int (1 : Int32))])) t
        refine XS.ifNo X15.here hx rfl (hb hby at_119) rfl ((if0 _ _).trans (tlt ((by decide))).2.2.2) ?_
        show Steps p.tables e below (T15.setTop (mkF m 122 (la0_11 p0 p1 p2 p3 p4 p5 b0_113) [])) t
        refine XS.aload X15.here hx rfl (hb hby at_122) rfl rfl ?_
        show Steps p.tables e below (T15.setTop (mkF m 124 (la0_11 p0 p1 p2 p3 p4 p5 b0_113) [(.ref b0_113)])) t
        refine XS.iconst X15.here hx rfl (hb hby at_124) ?_
        show Steps p.tables e below (T15.setTop (mkF m 125 (la0_11 p0 p1 p2 p3 p4 p5 b0_113) [(.int (0 : Int32)), (.ref b0_113)])) t
        refine XS.iload X15.here hx rfl (hb hby at_125) rfl ?_
        show Steps p.tables e below (T15.setTop (mkF m 127 (la0_11 p0 p1 p2 p3 p4 p5 b0_113) [(.int (f1 (f1 p0 p1) p2)), (.int (0 : Int32)), (.ref b0_113)])) t
        exact k
      obtain ⟨kc16, cl16, Ar16, q16, S16, M16, H16, G16⟩ := id V15
      have hin16 : ¬ ((0 : Int32) < 0 ∨ cl16.slots.size ≤ ((0 : Int32)).toNatClampNeg) := inb_of S16 ⟨by decide, by decide⟩
      obtain ⟨T16, h16, X16, e16, W16, st16⟩ := stI X15 hx hZ e15 Ar16 (j := (0 : Int32)) hin16 (g := (mkF m 127 (la0_11 p0 p1 p2 p3 p4 p5 b0_113) [(.int (f1 (f1 p0 p1) p2)), (.int (0 : Int32)), (.ref b0_113)])) rfl rfl (hb hby at_127)
      have N16 := Fr.snoc X16 N11 gle_b0_113
      have Z16 : n0 ≤ h16.size := Nat.le_trans Z15 (Keep.of_wr W16).1
      have K16 : Keep h0 h16 [] := K15.wr W16 (Or.inr sz_b0_113)
      have V16 : OArr Z h16 b0_113 .int (1 : Int32) [(.int (f1 (f1 p0 p1) p2))] (.int (0 : Int32)) := ⟨_, Arv.set Ar16 q16 S16 M16 H16 G16 rfl W16 0 rfl (Nat.le_of_ble_eq_true rfl)⟩
      refine ORchB.go (g' := (mkF m 128 (la0_11 p0 p1 p2 p3 p4 p5 b0_113) [])) st16 ?_
      refine ORchB.go (T' := T16) (g' := (mkF m 152 (la0_11 p0 p1 p2 p3 p4 p5 b0_113) [])) (fun t k => ?_) ?_
      · show Steps p.tables e below (T16.setTop (mkF m 128 (la0_11 p0 p1 p2 p3 p4 p5 b0_113) [])) t
        refine XS.iload X16.here hx rfl (hb hby at_128) rfl ?_
        show Steps p.tables e below (T16.setTop (mkF m 130 (la0_11 p0 p1 p2 p3 p4 p5 b0_113) [(.int (1 : Int32))])) t
        refine XS.iconst X16.here hx rfl (hb hby at_130) ?_
        show Steps p.tables e below (T16.setTop (mkF m 131 (la0_11 p0 p1 p2 p3 p4 p5 b0_113) [(.int (1 : Int32)), (.int (1 : Int32))])) t
        refine XS.icmpYes X16.here hx rfl (pc0 := 131) (pc' := 140) rfl (hb hby at_131) rfl (flt ((by decide))).2.2.2 (by decide) (by decide) ?_
        show Steps p.tables e below (T16.setTop (mkF m 140 (la0_11 p0 p1 p2 p3 p4 p5 b0_113) [])) t
        refine XS.iload X16.here hx rfl (hb hby at_140) rfl ?_
        show Steps p.tables e below (T16.setTop (mkF m 142 (la0_11 p0 p1 p2 p3 p4 p5 b0_113) [(.int (1 : Int32))])) t
        refine XS.iconst X16.here hx rfl (hb hby at_142) ?_
        show Steps p.tables e below (T16.setTop (mkF m 143 (la0_11 p0 p1 p2 p3 p4 p5 b0_113) [(.int (2 : Int32)), (.int (1 : Int32))])) t
        refine XS.icmpYes X16.here hx rfl (pc0 := 143) (pc' := 152) rfl (hb hby at_143) rfl (flt ((by decide))).2.2.2 (by decide) (by decide) ?_
        show Steps p.tables e below (T16.setTop (mkF m 152 (la0_11 p0 p1 p2 p3 p4 p5 b0_113) [])) t
        exact k
      exact ⟨_, _, _, _, X16, e16, N16, ⟨gle_b0_113, sz_b0_113, (own_at rfl (P := fun h => Keep h0 h []) K16), (by rw [hs13]; exact V16)⟩, fun t k => (own_k (f := fun (z : Int32) => mkF m 152 #[.val (.int p0), .val (.int p1), .val (.int p2), .val (.int p3), .val (.int p4), .val (.int p5), .val (.int (f1 (f1 p0 p1) p2)), .val (.int (f2 (f2 p0 p1) p2)), .val (.int (v0_39 p0 p1 p2 p3 p4 p5)), .val (.int z), .val (.int (v0_57 p0 p1 p2 p3 p4 p5)), .val (.int (v0_82 p0 p1 p2 p3 p4 p5)), .val (.int (v0_109 p0 p1 p2 p3 p4 p5)), .val (.ref b0_113), .unset, .unset] []) hs13 k)⟩
    · skip
      refine ORchB.go (T' := T11) (g' := (mkF m 111 (la0_12 p0 p1 p2 p3 p4 p5) [])) (fun t k => (own_k (f := fun (z : Int32) => mkF m 111 #[.val (.int p0), .val (.int p1), .val (.int p2), .val (.int p3), .val (.int p4), .val (.int p5), .val (.int (f1 (f1 p0 p1) p2)), .val (.int (f2 (f2 p0 p1) p2)), .val (.int (v0_39 p0 p1 p2 p3 p4 p5)), .val (.int z), .val (.int (v0_57 p0 p1 p2 p3 p4 p5)), .val (.int (v0_82 p0 p1 p2 p3 p4 p5)), .val (.int (v0_109 p0 p1 p2 p3 p4 p5)), .unset, .unset, .unset] []) hs13.symm k)) ?_
      refine ORchB.go (T' := T11) (g' := (mkF m 113 (la0_12 p0 p1 p2 p3 p4 p5) [(.int (2 : Int32))])) (fun t k => ?_) ?_
      · show Steps p.tables e below (T11.setTop (mkF m 111 (la0_12 p0 p1 p2 p3 p4 p5) [])) t
        refine XS.iload X11.here hx rfl (hb hby at_111) rfl ?_
        show Steps p.tables e below (T11.setTop (mkF m 113 (la0_12 p0 p1 p2 p3 p4 p5) [(.int (2 : Int32))])) t
        exact k
      obtain ⟨T17, h17, k17, X17, e17, E17, A17, st17⟩ := newP X11 hx hZ (hw _ (List.mem_of_getElem? (i := 11) rfl)) e11 (g := (mkF m 113 (la0_12 p0 p1 p2 p3 p4 p5) [(.int (2 : Int32))])) rfl (hb hby at_113) rfl (by decide) (cap := 3) (by decide) (by decide) (by decide) (by decide)
      obtain ⟨b0_113, g17⟩ : ∃ z, z = h0.size := ⟨_, rfl⟩
      rw [← g17] at A17 st17
      have gle_b0_113 : n0 ≤ b0_113 := Nat.le_trans Z0 (Nat.le_of_eq g17.symm)
      have sz_b0_113 : h0.size ≤ b0_113 := Nat.le_trans KR12.1 (Nat.le_of_eq g17.symm)
      have Z17 : n0 ≤ h17.size := Nat.le_trans Z0 E17.1
      have K17 : Keep h0 h17 [] := KR12.ext E17
      have V17 : OArr Z h17 b0_113 .int (2 : Int32) [(.int (0 : Int32)), (.int (0 : Int32))] (.int (0 : Int32)) := ⟨_, (Arv.new A17 (by decide)).pad (pad_rep [] (.int (0 : Int32)) 2)⟩
      refine ORchB.go (g' := (mkF m 115 (la0_12 p0 p1 p2 p3 p4 p5) [(.ref b0_113)])) st17 ?_
      refine ORchB.go (T' := T17) (g' := (mkF m 127 (la0_13 p0 p1 p2 p3 p4 p5 b0_113) [(.int (f1 (f1 p0 p1) p2)), (.int (0 : Int32)), (.ref b0_113)])) (fun t k => ?_) ?_
      · show Steps p.tables e below (T17.setTop (mkF m 115 (la0_12 p0 p1 p2 p3 p4 p5) [(.ref b0_113)])) t
        refine XS.astore X17.here hx rfl (hb hby at_115) rfl rfl (l' := (la0_13 p0 p1 p2 p3 p4 p5 b0_113)) rfl ?_
        show Steps p.tables e below (T17.setTop (mkF m 117 (la0_13 p0 p1 p2 p3 p4 p5 b0_113) [])) t
        refine XS.iload X17.here hx rfl (hb hby at_117) rfl ?_
        show Steps p.tables e below (T17.setTop (mkF m 119 (la0_13 p0 p1 p2 p3 p4 p5 b0_113) [(.int (2 : Int32))])) t
        refine XS.ifNo X17.here hx rfl (hb hby at_119) rfl ((if0 _ _).trans (tlt ((by decide))).2.2.2) ?_
        show Steps p.tables e below (T17.setTop (mkF m 122 (la0_13 p0 p1 p2 p3 p4 p5 b0_113) [])) t
        refine XS.aload X17.here hx rfl (hb hby at_122) rfl rfl ?_
        show Steps p.tables e below (T17.setTop (mkF m 124 (la0_13 p0 p1 p2 p3 p4 p5 b0_113) [(.ref b0_113)])) t
        refine XS.iconst X17.here hx rfl (hb hby at_124) ?_
        show Steps p.tables e below (T17.setTop (mkF m 125 (la0_13 p0 p1 p2 p3 p4 p5 b0_113) [(.int (0 : Int32)), (.ref b0_113)])) t
        refine XS.iload X17.here hx rfl (hb hby at_125) rfl ?_
        show Steps p.tables e below (T17.setTop (mkF m 127 (la0_13 p0 p1 p2 p3 p4 p5 b0_113) [(.int (f1 (f1 p0 p1) p2)), (.int (0 : Int32)), (.ref b0_113)])) t
        exact k
      obtain ⟨kc18, cl18, Ar18, q18, S18, M18, H18, G18⟩ := id V17
      have hin18 : ¬ ((0 : Int32) < 0 ∨ cl18.slots.size ≤ ((0 : Int32)).toNatClampNeg) := inb_of S18 ⟨by decide, by decide⟩
      obtain ⟨T18, h18, X18, e18, W18, st18⟩ := stI X17 hx hZ e17 Ar18 (j := (0 : Int32)) hin18 (g := (mkF m 127 (la0_13 p0 p1 p2 p3 p4 p5 b0_113) [(.int (f1 (f1 p0 p1) p2)), (.int (0 : Int32)), (.ref b0_113)])) rfl rfl (hb hby at_127)
      have N18 := Fr.snoc X18 N11 gle_b0_113
      have Z18 : n0 ≤ h18.size := Nat.le_trans Z17 (Keep.of_wr W18).1
      have K18 : Keep h0 h18 [] := K17.wr W18 (Or.inr sz_b0_113)
      have V18 : OArr Z h18 b0_113 .int (2 : Int32) [(.int (f1 (f1 p0 p1) p2)), (.int (0 : Int32))] (.int (0 : Int32)) := ⟨_, Arv.set Ar18 q18 S18 M18 H18 G18 rfl W18 0 rfl (Nat.le_of_ble_eq_true rfl)⟩
      refine ORchB.go (g' := (mkF m 128 (la0_13 p0 p1 p2 p3 p4 p5 b0_113) [])) st18 ?_
      refine ORchB.go (T' := T18) (g' := (mkF m 139 (la0_13 p0 p1 p2 p3 p4 p5 b0_113) [(.int (v0_39 p0 p1 p2 p3 p4 p5)), (.int (1 : Int32)), (.ref b0_113)])) (fun t k => ?_) ?_
      · show Steps p.tables e below (T18.setTop (mkF m 128 (la0_13 p0 p1 p2 p3 p4 p5 b0_113) [])) t
        refine XS.iload X18.here hx rfl (hb hby at_128) rfl ?_
        show Steps p.tables e below (T18.setTop (mkF m 130 (la0_13 p0 p1 p2 p3 p4 p5 b0_113) [(.int (2 : Int32))])) t
        refine XS.iconst X18.here hx rfl (hb hby at_130) ?_
        show Steps p.tables e below (T18.setTop (mkF m 131 (la0_13 p0 p1 p2 p3 p4 p5 b0_113) [(.int (1 : Int32)), (.int (2 : Int32))])) t
        refine XS.icmpNo X18.here hx rfl (hb hby at_131) rfl (tlt ((by decide))).2.2.2 ?_
        show Steps p.tables e below (T18.setTop (mkF m 134 (la0_13 p0 p1 p2 p3 p4 p5 b0_113) [])) t
        refine XS.aload X18.here hx rfl (hb hby at_134) rfl rfl ?_
        show Steps p.tables e below (T18.setTop (mkF m 136 (la0_13 p0 p1 p2 p3 p4 p5 b0_113) [(.ref b0_113)])) t
        refine XS.iconst X18.here hx rfl (hb hby at_136) ?_
        show Steps p.tables e below (T18.setTop (mkF m 137 (la0_13 p0 p1 p2 p3 p4 p5 b0_113) [(.int (1 : Int32)), (.ref b0_113)])) t
        refine XS.iload X18.here hx rfl (hb hby at_137) rfl ?_
        show Steps p.tables e below (T18.setTop (mkF m 139 (la0_13 p0 p1 p2 p3 p4 p5 b0_113) [(.int (v0_39 p0 p1 p2 p3 p4 p5)), (.int (1 : Int32)), (.ref b0_113)])) t
        exact k
      obtain ⟨kc19, cl19, Ar19, q19, S19, M19, H19, G19⟩ := id V18
      have hin19 : ¬ ((1 : Int32) < 0 ∨ cl19.slots.size ≤ ((1 : Int32)).toNatClampNeg) := inb_of S19 ⟨by decide, by decide⟩
      obtain ⟨T19, h19, X19, e19, W19, st19⟩ := stI X18 hx hZ e18 Ar19 (j := (1 : Int32)) hin19 (g := (mkF m 139 (la0_13 p0 p1 p2 p3 p4 p5 b0_113) [(.int (v0_39 p0 p1 p2 p3 p4 p5)), (.int (1 : Int32)), (.ref b0_113)])) rfl rfl (hb hby at_139)
      have N19 := Fr.snoc X19 N18 gle_b0_113
      have Z19 : n0 ≤ h19.size := Nat.le_trans Z18 (Keep.of_wr W19).1
      have K19 : Keep h0 h19 [] := K18.wr W19 (Or.inr sz_b0_113)
      have V19 : OArr Z h19 b0_113 .int (2 : Int32) [(.int (f1 (f1 p0 p1) p2)), (.int (v0_39 p0 p1 p2 p3 p4 p5))] (.int (0 : Int32)) := ⟨_, Arv.set Ar19 q19 S19 M19 H19 G19 rfl W19 1 rfl (Nat.le_of_ble_eq_true rfl)⟩
      refine ORchB.go (g' := (mkF m 140 (la0_13 p0 p1 p2 p3 p4 p5 b0_113) [])) st19 ?_
      refine ORchB.go (T' := T19) (g' := (mkF m 152 (la0_13 p0 p1 p2 p3 p4 p5 b0_113) [])) (fun t k => ?_) ?_
      · show Steps p.tables e below (T19.setTop (mkF m 140 (la0_13 p0 p1 p2 p3 p4 p5 b0_113) [])) t
        refine XS.iload X19.here hx rfl (hb hby at_140) rfl ?_
        show Steps p.tables e below (T19.setTop (mkF m 142 (la0_13 p0 p1 p2 p3 p4 p5 b0_113) [(.int (2 : Int32))])) t
        refine XS.iconst X19.here hx rfl (hb hby at_142) ?_
        show Steps p.tables e below (T19.setTop (mkF m 143 (la0_13 p0 p1 p2 p3 p4 p5 b0_113) [(.int (2 : Int32)), (.int (2 : Int32))])) t
        refine XS.icmpYes X19.here hx rfl (pc0 := 143) (pc' := 152) rfl (hb hby at_143) rfl (flt ((by decide))).2.2.2 (by decide) (by decide) ?_
        show Steps p.tables e below (T19.setTop (mkF m 152 (la0_13 p0 p1 p2 p3 p4 p5 b0_113) [])) t
        exact k
      exact ⟨_, _, _, _, X19, e19, N19, ⟨gle_b0_113, sz_b0_113, (own_at rfl (P := fun h => Keep h0 h []) K19), (by rw [hs13]; exact V19)⟩, fun t k => (own_k (f := fun (z : Int32) => mkF m 152 #[.val (.int p0), .val (.int p1), .val (.int p2), .val (.int p3), .val (.int p4), .val (.int p5), .val (.int (f1 (f1 p0 p1) p2)), .val (.int (f2 (f2 p0 p1) p2)), .val (.int (v0_39 p0 p1 p2 p3 p4 p5)), .val (.int z), .val (.int (v0_57 p0 p1 p2 p3 p4 p5)), .val (.int (v0_82 p0 p1 p2 p3 p4 p5)), .val (.int (v0_109 p0 p1 p2 p3 p4 p5)), .val (.ref b0_113), .unset, .unset] []) hs13 k)⟩
    · skip
      refine ORchB.go (T' := T11) (g' := (mkF m 111 (la0_14 p0 p1 p2 p3 p4 p5) [])) (fun t k => (own_k (f := fun (z : Int32) => mkF m 111 #[.val (.int p0), .val (.int p1), .val (.int p2), .val (.int p3), .val (.int p4), .val (.int p5), .val (.int (f1 (f1 p0 p1) p2)), .val (.int (f2 (f2 p0 p1) p2)), .val (.int (v0_39 p0 p1 p2 p3 p4 p5)), .val (.int z), .val (.int (v0_57 p0 p1 p2 p3 p4 p5)), .val (.int (v0_82 p0 p1 p2 p3 p4 p5)), .val (.int (v0_109 p0 p1 p2 p3 p4 p5)), .unset, .unset, .unset] []) hs13.symm k)) ?_
      refine ORchB.go (T' := T11) (g' := (mkF m 113 (la0_14 p0 p1 p2 p3 p4 p5) [(.int (3 : Int32))])) (fun t k => ?_) ?_
      · show Steps p.tables e below (T11.setTop (mkF m 111 (la0_14 p0 p1 p2 p3 p4 p5) [])) t
        refine XS.iload X11.here hx rfl (hb hby at_111) rfl ?_
        show Steps p.tables e below (T11.setTop (mkF m 113 (la0_14 p0 p1 p2 p3 p4 p5) [(.int (3 : Int32))])) t
        exact k
      obtain ⟨T20, h20, k20, X20, e20, E20, A20, st20⟩ := newP X11 hx hZ (hw _ (List.mem_of_getElem? (i := 11) rfl)) e11 (g := (mkF m 113 (la0_14 p0 p1 p2 p3 p4 p5) [(.int (3 : Int32))])) rfl (hb hby at_113) rfl (by decide) (cap := 3) (by decide) (by decide) (by decide) (by decide)
      obtain ⟨b0_113, g20⟩ : ∃ z, z = h0.size := ⟨_, rfl⟩
      rw [← g20] at A20 st20
      have gle_b0_113 : n0 ≤ b0_113 := Nat.le_trans Z0 (Nat.le_of_eq g20.symm)
      have sz_b0_113 : h0.size ≤ b0_113 := Nat.le_trans KR12.1 (Nat.le_of_eq g20.symm)
      have Z20 : n0 ≤ h20.size := Nat.le_trans Z0 E20.1
      have K20 : Keep h0 h20 [] := KR12.ext E20
      have V20 : OArr Z h20 b0_113 .int (3 : Int32) [(.int (0 : Int32)), (.int (0 : Int32)), (.int (0 : Int32))] (.int (0 : Int32)) := ⟨_, (Arv.new A20 (by decide)).pad (pad_rep [] (.int (0 : Int32)) 3)⟩
      refine ORchB.go (g' := (mkF m 115 (la0_14 p0 p1 p2 p3 p4 p5) [(.ref b0_113)])) st20 ?_
      refine ORchB.go (T' := T20) (g' := (mkF m 127 (la0_15 p0 p1 p2 p3 p4 p5 b0_113) [(.int (f1 (f1 p0 p1) p2)), (.int (0 : Int32)), (.ref b0_113)])) (fun t k => ?_) ?_
      · show Steps p.tables e below (T20.setTop (mkF m 115 (la0_14 p0 p1 p2 p3 p4 p5) [(.ref b0_113)])) t
        refine XS.astore X20.here hx rfl (hb hby at_115) rfl rfl (l' := (la0_15 p0 p1 p2 p3 p4 p5 b0_113)) rfl ?_
        show Steps p.tables e below (T20.setTop (mkF m 117 (la0_15 p0 p1 p2 p3 p4 p5 b0_113) [])) t
        refine XS.iload X20.here hx rfl (hb hby at_117) rfl ?_
        show Steps p.tables e below (T20.setTop (mkF m 119 (la0_15 p0 p1 p2 p3 p4 p5 b0_113) [(.int (3 : Int32))])) t
        refine XS.ifNo X20.here hx rfl (hb hby at_119) rfl ((if0 _ _).trans (tlt ((by decide))).2.2.2) ?_
        show Steps p.tables e below (T20.setTop (mkF m 122 (la0_15 p0 p1 p2 p3 p4 p5 b0_113) [])) t
        refine XS.aload X20.here hx rfl (hb hby at_122) rfl rfl ?_
        show Steps p.tables e below (T20.setTop (mkF m 124 (la0_15 p0 p1 p2 p3 p4 p5 b0_113) [(.ref b0_113)])) t
        refine XS.iconst X20.here hx rfl (hb hby at_124) ?_
        show Steps p.tables e below (T20.setTop (mkF m 125 (la0_15 p0 p1 p2 p3 p4 p5 b0_113) [(.int (0 : Int32)), (.ref b0_113)])) t
        refine XS.iload X20.here hx rfl (hb hby at_125) rfl ?_
        show Steps p.tables e below (T20.setTop (mkF m 127 (la0_15 p0 p1 p2 p3 p4 p5 b0_113) [(.int (f1 (f1 p0 p1) p2)), (.int (0 : Int32)), (.ref b0_113)])) t
        exact k
      obtain ⟨kc21, cl21, Ar21, q21, S21, M21, H21, G21⟩ := id V20
      have hin21 : ¬ ((0 : Int32) < 0 ∨ cl21.slots.size ≤ ((0 : Int32)).toNatClampNeg) := inb_of S21 ⟨by decide, by decide⟩
      obtain ⟨T21, h21, X21, e21, W21, st21⟩ := stI X20 hx hZ e20 Ar21 (j := (0 : Int32)) hin21 (g := (mkF m 127 (la0_15 p0 p1 p2 p3 p4 p5 b0_113) [(.int (f1 (f1 p0 p1) p2)), (.int (0 : Int32)), (.ref b0_113)])) rfl rfl (hb hby at_127)
      have N21 := Fr.snoc X21 N11 gle_b0_113
      have Z21 : n0 ≤ h21.size := Nat.le_trans Z20 (Keep.of_wr W21).1
      have K21 : Keep h0 h21 [] := K20.wr W21 (Or.inr sz_b0_113)
      have V21 : OArr Z h21 b0_113 .int (3 : Int32) [(.int (f1 (f1 p0 p1) p2)), (.int (0 : Int32)), (.int (0 : Int32))] (.int (0 : Int32)) := ⟨_, Arv.set Ar21 q21 S21 M21 H21 G21 rfl W21 0 rfl (Nat.le_of_ble_eq_true rfl)⟩
      refine ORchB.go (g' := (mkF m 128 (la0_15 p0 p1 p2 p3 p4 p5 b0_113) [])) st21 ?_
      refine ORchB.go (T' := T21) (g' := (mkF m 139 (la0_15 p0 p1 p2 p3 p4 p5 b0_113) [(.int (v0_39 p0 p1 p2 p3 p4 p5)), (.int (1 : Int32)), (.ref b0_113)])) (fun t k => ?_) ?_
      · show Steps p.tables e below (T21.setTop (mkF m 128 (la0_15 p0 p1 p2 p3 p4 p5 b0_113) [])) t
        refine XS.iload X21.here hx rfl (hb hby at_128) rfl ?_
        show Steps p.tables e below (T21.setTop (mkF m 130 (la0_15 p0 p1 p2 p3 p4 p5 b0_113) [(.int (3 : Int32))])) t
        refine XS.iconst X21.here hx rfl (hb hby at_130) ?_
        show Steps p.tables e below (T21.setTop (mkF m 131 (la0_15 p0 p1 p2 p3 p4 p5 b0_113) [(.int (1 : Int32)), (.int (3 : Int32))])) t
        refine XS.icmpNo X21.here hx rfl (hb hby at_131) rfl (tlt ((by decide))).2.2.2 ?_
        show Steps p.tables e below (T21.setTop (mkF m 134 (la0_15 p0 p1 p2 p3 p4 p5 b0_113) [])) t
        refine XS.aload X21.here hx rfl (hb hby at_134) rfl rfl ?_
        show Steps p.tables e below (T21.setTop (mkF m 136 (la0_15 p0 p1 p2 p3 p4 p5 b0_113) [(.ref b0_113)])) t
        refine XS.iconst X21.here hx rfl (hb hby at_136) ?_
        show Steps p.tables e below (T21.setTop (mkF m 137 (la0_15 p0 p1 p2 p3 p4 p5 b0_113) [(.int (1 : Int32)), (.ref b0_113)])) t
        refine XS.iload X21.here hx rfl (hb hby at_137) rfl ?_
        show Steps p.tables e below (T21.setTop (mkF m 139 (la0_15 p0 p1 p2 p3 p4 p5 b0_113) [(.int (v0_39 p0 p1 p2 p3 p4 p5)), (.int (1 : Int32)), (.ref b0_113)])) t
        exact k
      obtain ⟨kc22, cl22, Ar22, q22, S22, M22, H22, G22⟩ := id V21
      have hin22 : ¬ ((1 : Int32) < 0 ∨ cl22.slots.size ≤ ((1 : Int32)).toNatClampNeg) := inb_of S22 ⟨by decide, by decide⟩
      obtain ⟨T22, h22, X22, e22, W22, st22⟩ := stI X21 hx hZ e21 Ar22 (j := (1 : Int32)) hin22 (g := (mkF m 139 (la0_15 p0 p1 p2 p3 p4 p5 b0_113) [(.int (v0_39 p0 p1 p2 p3 p4 p5)), (.int (1 : Int32)), (.ref b0_113)])) rfl rfl (hb hby at_139)
      have N22 := Fr.snoc X22 N21 gle_b0_113
      have Z22 : n0 ≤ h22.size := Nat.le_trans Z21 (Keep.of_wr W22).1
      have K22 : Keep h0 h22 [] := K21.wr W22 (Or.inr sz_b0_113)
      have V22 : OArr Z h22 b0_113 .int (3 : Int32) [(.int (f1 (f1 p0 p1) p2)), (.int (v0_39 p0 p1 p2 p3 p4 p5)), (.int (0 : Int32))] (.int (0 : Int32)) := ⟨_, Arv.set Ar22 q22 S22 M22 H22 G22 rfl W22 1 rfl (Nat.le_of_ble_eq_true rfl)⟩
      refine ORchB.go (g' := (mkF m 140 (la0_15 p0 p1 p2 p3 p4 p5 b0_113) [])) st22 ?_
      refine ORchB.go (T' := T22) (g' := (mkF m 151 (la0_15 p0 p1 p2 p3 p4 p5 b0_113) [(.int (f2 (f2 p0 p1) p2)), (.int (2 : Int32)), (.ref b0_113)])) (fun t k => ?_) ?_
      · show Steps p.tables e below (T22.setTop (mkF m 140 (la0_15 p0 p1 p2 p3 p4 p5 b0_113) [])) t
        refine XS.iload X22.here hx rfl (hb hby at_140) rfl ?_
        show Steps p.tables e below (T22.setTop (mkF m 142 (la0_15 p0 p1 p2 p3 p4 p5 b0_113) [(.int (3 : Int32))])) t
        refine XS.iconst X22.here hx rfl (hb hby at_142) ?_
        show Steps p.tables e below (T22.setTop (mkF m 143 (la0_15 p0 p1 p2 p3 p4 p5 b0_113) [(.int (2 : Int32)), (.int (3 : Int32))])) t
        refine XS.icmpNo X22.here hx rfl (hb hby at_143) rfl (tlt ((by decide))).2.2.2 ?_
        show Steps p.tables e below (T22.setTop (mkF m 146 (la0_15 p0 p1 p2 p3 p4 p5 b0_113) [])) t
        refine XS.aload X22.here hx rfl (hb hby at_146) rfl rfl ?_
        show Steps p.tables e below (T22.setTop (mkF m 148 (la0_15 p0 p1 p2 p3 p4 p5 b0_113) [(.ref b0_113)])) t
        refine XS.iconst X22.here hx rfl (hb hby at_148) ?_
        show Steps p.tables e below (T22.setTop (mkF m 149 (la0_15 p0 p1 p2 p3 p4 p5 b0_113) [(.int (2 : Int32)), (.ref b0_113)])) t
        refine XS.iload X22.here hx rfl (hb hby at_149) rfl ?_
        show Steps p.tables e below (T22.setTop (mkF m 151 (la0_15 p0 p1 p2 p3 p4 p5 b0_113) [(.int (f2 (f2 p0 p1) p2)), (.int (2 : Int32)), (.ref b0_113)])) t
        exact k
      obtain ⟨kc23, cl23, Ar23, q23, S23, M23, H23, G23⟩ := id V22
      have hin23 : ¬ ((2 : Int32) < 0 ∨ cl23.slots.size ≤ ((2 : Int32)).toNatClampNeg) := inb_of S23 ⟨by decide, by decide⟩
      obtain ⟨T23, h23, X23, e23, W23, st23⟩ := stI X22 hx hZ e22 Ar23 (j := (2 : Int32)) hin23 (g := (mkF m 151 (la0_15 p0 p1 p2 p3 p4 p5 b0_113) [(.int (f2 (f2 p0 p1) p2)), (.int (2 : Int32)), (.ref b0_113)])) rfl rfl (hb hby at_151)
      have N23 := Fr.snoc X23 N22 gle_b0_113
      have Z23 : n0 ≤ h23.size := Nat.le_trans Z22 (Keep.of_wr W23).1
      have K23 : Keep h0 h23 [] := K22.wr W23 (Or.inr sz_b0_113)
      have V23 : OArr Z h23 b0_113 .int (3 : Int32) [(.int (f1 (f1 p0 p1) p2)), (.int (v0_39 p0 p1 p2 p3 p4 p5)), (.int (f2 (f2 p0 p1) p2))] (.int (0 : Int32)) := ⟨_, Arv.set Ar23 q23 S23 M23 H23 G23 rfl W23 2 rfl (Nat.le_of_ble_eq_true rfl)⟩
      refine ORchB.go (g' := (mkF m 152 (la0_15 p0 p1 p2 p3 p4 p5 b0_113) [])) st23 ?_
      exact ⟨_, _, _, _, X23, e23, N23, ⟨gle_b0_113, sz_b0_113, (own_at rfl (P := fun h => Keep h0 h []) K23), (by rw [hs13]; exact V23)⟩, fun t k => (own_k (f := fun (z : Int32) => mkF m 152 #[.val (.int p0), .val (.int p1), .val (.int p2), .val (.int p3), .val (.int p4), .val (.int p5), .val (.int (f1 (f1 p0 p1) p2)), .val (.int (f2 (f2 p0 p1) p2)), .val (.int (v0_39 p0 p1 p2 p3 p4 p5)), .val (.int z), .val (.int (v0_57 p0 p1 p2 p3 p4 p5)), .val (.int (v0_82 p0 p1 p2 p3 p4 p5)), .val (.int (v0_109 p0 p1 p2 p3 p4 p5)), .val (.ref b0_113), .unset, .unset] []) hs13 k)⟩
  have Z12 : n0 ≤ h12.size := Nat.le_trans Z0 u12_2.1
  have gle_b0_113 := u12_0
  refine OEnd.go (g' := (mkF m 152 (la0_24 p0 p1 p2 p3 p4 p5 b0_113) [])) st12 ?_
  obtain ⟨b0_154, T24, h24, L24, X24, e24, N24, ⟨u24_0, u24_1, u24_2, u24_3⟩, st24⟩ : ORchB p l e room_1 s m #[(.int p0), (.int p1), (.int p2), (.int p3), (.int p4), (.int p5)] below meth c n0 T12 (mkF m 152 (la0_24 p0 p1 p2 p3 p4 p5 b0_113) []) (fun b0_154 => (mkF m 198 (la0_22 p0 p1 p2 p3 p4 p5 b0_113 b0_154) [])) 2 5 (fun h b0_154 => n0 ≤ b0_154 ∧ h12.size ≤ b0_154 ∧ Keep h12 h [] ∧ OArr Z h b0_154 .int (v0_57 p0 p1 p2 p3 p4 p5) (List.map Value.int (own_s2 (v0_57 p0 p1 p2 p3 p4 p5) (v0_82 p0 p1 p2 p3 p4 p5) (v0_109 p0 p1 p2 p3 p4 p5))) (.int (0 : Int32))) := by
    have KR24 : Keep h12 h12 [] := Keep.refl _ _
    rcases (own_ns p0 p1 p2 p3 p4 p5) with hs25 | hs25 | hs25
    · skip
      refine ORchB.go (T' := T12) (g' := (mkF m 152 (la0_16 p0 p1 p2 p3 p4 p5 b0_113) [])) (fun t k => (own_k (f := fun (z : Int32) => mkF m 152 #[.val (.int p0), .val (.int p1), .val (.int p2), .val (.int p3), .val (.int p4), .val (.int p5), .val (.int (f1 (f1 p0 p1) p2)), .val (.int (f2 (f2 p0 p1) p2)), .val (.int (v0_39 p0 p1 p2 p3 p4 p5)), .val (.int (p5 &&& (3 : Int32))), .val (.int z), .val (.int (v0_82 p0 p1 p2 p3 p4 p5)), .val (.int (v0_109 p0 p1 p2 p3 p4 p5)), .val (.ref b0_113), .unset, .unset] []) hs25.symm k)) ?_
      refine ORchB.go (T' := T12) (g' := (mkF m 154 (la0_16 p0 p1 p2 p3 p4 p5 b0_113) [(.int (0 : Int32))])) (fun t k => ?_) ?_
      · show Steps p.tables e below (T12.setTop (mkF m 152 (la0_16 p0 p1 p2 p3 p4 p5 b0_113) [])) t
        refine XS.iload X12.here hx rfl (hb hby at_152) rfl ?_
        show Steps p.tables e below (T12.setTop (mkF m 154 (la0_16 p0 p1 p2 p3 p4 p5 b0_113) [(.int (0 : Int32))])) t
        exact k
      obtain ⟨T26, h26, k26, X26, e26, E26, A26, st26⟩ := newP X12 hx hZ (hw _ (List.mem_of_getElem? (i := 11) rfl)) e12 (g := (mkF m 154 (la0_16 p0 p1 p2 p3 p4 p5 b0_113) [(.int (0 : Int32))])) rfl (hb hby at_154) rfl (by decide) (cap := 2) (by decide) (by decide) (by decide) (by decide)
      obtain ⟨b0_154, g26⟩ : ∃ z, z = h12.size := ⟨_, rfl⟩
      rw [← g26] at A26 st26
      have gle_b0_154 : n0 ≤ b0_154 := Nat.le_trans Z12 (Nat.le_of_eq g26.symm)
      have sz_b0_154 : h12.size ≤ b0_154 := Nat.le_trans KR24.1 (Nat.le_of_eq g26.symm)
      have ne_b0_113_b0_154 : b0_113 ≠ b0_154 := Nat.ne_of_lt (Nat.lt_of_lt_of_le u12_3.lt (Nat.le_of_eq g26.symm))
      have fc27 : OArr Z h26 b0_113 .int (p5 &&& (3 : Int32)) (List.map Value.int (own_t3 (p5 &&& (3 : Int32)) (f1 (f1 p0 p1) p2) (v0_39 p0 p1 p2 p3 p4 p5) (f2 (f2 p0 p1) p2))) (.int (0 : Int32)) := (u12_3.ext E26)
      have Z26 : n0 ≤ h26.size := Nat.le_trans Z12 E26.1
      have K26 : Keep h12 h26 [] := KR24.ext E26
      have V26 : OArr Z h26 b0_154 .int (0 : Int32) [] (.int (0 : Int32)) := ⟨_, Arv.new A26 (by decide)⟩
      refine ORchB.go (g' := (mkF m 156 (la0_16 p0 p1 p2 p3 p4 p5 b0_113) [(.ref b0_154)])) st26 ?_
      refine ORchB.go (T' := T26) (g' := (mkF m 198 (la0_17 p0 p1 p2 p3 p4 p5 b0_113 b0_154) [])) (fun t k => ?_) ?_
      · show Steps p.tables e below (T26.setTop (mkF m 156 (la0_16 p0 p1 p2 p3 p4 p5 b0_113) [(.ref b0_154)])) t
        refine XS.astore X26.here hx rfl (hb hby at_156) rfl rfl (l' := (la0_17 p0 p1 p2 p3 p4 p5 b0_113 b0_154)) rfl ?_
        show Steps p.tables e below (T26.setTop (mkF m 158 (la0_17 p0 p1 p2 p3 p4 p5 b0_113 b0_154) [])) t
        refine XS.iload X26.here hx rfl (hb hby at_158) rfl ?_
        show Steps p.tables e below (T26.setTop (mkF m 160 (la0_17 p0 p1 p2 p3 p4 p5 b0_113 b0_154) [(.int (0 : Int32))])) t
        refine XS.iconst X26.here hx rfl (hb hby at_160) ?_
        show Steps p.tables e below (T26.setTop (mkF m 161 (la0_17 p0 p1 p2 p3 p4 p5 b0_113 b0_154) [(.int (1 : Int32)), (.int (0 : Int32))])) t
        refine XS.icmpYes X26.here hx rfl (pc0 := 161) (pc' := 170) rfl (hb hby at_161) rfl (feq ((by decide))).2 (by decide) (by decide) ?_
        show Steps p.tables e below (T26.setTop (mkF m 170 (la0_17 p0 p1 p2 p3 p4 p5 b0_113 b0_154) [])) t
        refine XS.iload X26.here hx rfl (hb hby at_170) rfl ?_
        show Steps p.tables e below (T26.setTop (mkF m 172 (la0_17 p0 p1 p2 p3 p4 p5 b0_113 b0_154) [(.int (0 : Int32))])) t
        refine XS.iconst X26.here hx rfl (hb hby at_172) ?_
        show Steps p.tables e below (T26.setTop (mkF m 173 (la0_17 p0 p1 p2 p3 p4 p5 b0_113 b0_154) [(.int (2 : Int32)), (.int (0 : Int32))])) t
        refine XS.icmpYes X26.here hx rfl (pc0 := 173) (pc' := 198) rfl (hb hby at_173) rfl (feq ((by decide))).2 (by decide) (by decide) ?_
        show Steps p.tables e below (T26.setTop (mkF m 198 (la0_17 p0 p1 p2 p3 p4 p5 b0_113 b0_154) [])) t
        exact k
      exact ⟨_, _, _, _, X26, e26, N12, ⟨gle_b0_154, sz_b0_154, (own_at rfl (P := fun h => Keep h12 h []) K26), (by rw [hs25]; exact V26)⟩, fun t k => (own_k (f := fun (z : Int32) => mkF m 198 #[.val (.int p0), .val (.int p1), .val (.int p2), .val (.int p3), .val (.int p4), .val (.int p5), .val (.int (f1 (f1 p0 p1) p2)), .val (.int (f2 (f2 p0 p1) p2)), .val (.int (v0_39 p0 p1 p2 p3 p4 p5)), .val (.int (p5 &&& (3 : Int32))), .val (.int z), .val (.int (v0_82 p0 p1 p2 p3 p4 p5)), .val (.int (v0_109 p0 p1 p2 p3 p4 p5)), .val (.ref b0_113), .val (.ref b0_154), .unset] []) hs25 k)⟩
    · skip
      refine ORchB.go (T' := T12) (g' := (mkF m 152 (la0_18 p0 p1 p2 p3 p4 p5 b0_113) [])) (fun t k => (own_k (f := fun (z : Int32) => mkF m 152 #[.val (.int p0), .val (.int p1), .val (.int p2), .val (.int p3), .val (.int p4), .val (.int p5), .val (.int (f1 (f1 p0 p1) p2)), .val (.int (f2 (f2 p0 p1) p2)), .val (.int (v0_39 p0 p1 p2 p3 p4 p5)), .val (.int (p5 &&& (3 : Int32))), .val (.int z), .val (.int (v0_82 p0 p1 p2 p3 p4 p5)), .val (.int (v0_109 p0 p1 p2 p3 p4 p5)), .val (.ref b0_113), .unset, .unset] []) hs25.symm k)) ?_
      refine ORchB.go (T' := T12) (g' := (mkF m 154 (la0_18 p0 p1 p2 p3 p4 p5 b0_113) [(.int (1 : Int32))])) (fun t k => ?_) ?_
      · show Steps p.tables e below (T12.setTop (mkF m 152 (la0_18 p0 p1 p2 p3 p4 p5 b0_113) [])) t
        refine XS.iload X12.here hx rfl (hb hby at_152) rfl ?_
        show Steps p.tables e below (T12.setTop (mkF m 154 (la0_18 p0 p1 p2 p3 p4 p5 b0_113) [(.int (1 : Int32))])) t
        exact k
      obtain ⟨T28, h28, k28, X28, e28, E28, A28, st28⟩ := newP X12 hx hZ (hw _ (List.mem_of_getElem? (i := 11) rfl)) e12 (g := (mkF m 154 (la0_18 p0 p1 p2 p3 p4 p5 b0_113) [(.int (1 : Int32))])) rfl (hb hby at_154) rfl (by decide) (cap := 2) (by decide) (by decide) (by decide) (by decide)
      obtain ⟨b0_154, g28⟩ : ∃ z, z = h12.size := ⟨_, rfl⟩
      rw [← g28] at A28 st28
      have gle_b0_154 : n0 ≤ b0_154 := Nat.le_trans Z12 (Nat.le_of_eq g28.symm)
      have sz_b0_154 : h12.size ≤ b0_154 := Nat.le_trans KR24.1 (Nat.le_of_eq g28.symm)
      have ne_b0_113_b0_154 : b0_113 ≠ b0_154 := Nat.ne_of_lt (Nat.lt_of_lt_of_le u12_3.lt (Nat.le_of_eq g28.symm))
      have fc29 : OArr Z h28 b0_113 .int (p5 &&& (3 : Int32)) (List.map Value.int (own_t3 (p5 &&& (3 : Int32)) (f1 (f1 p0 p1) p2) (v0_39 p0 p1 p2 p3 p4 p5) (f2 (f2 p0 p1) p2))) (.int (0 : Int32)) := (u12_3.ext E28)
      have Z28 : n0 ≤ h28.size := Nat.le_trans Z12 E28.1
      have K28 : Keep h12 h28 [] := KR24.ext E28
      have V28 : OArr Z h28 b0_154 .int (1 : Int32) [(.int (0 : Int32))] (.int (0 : Int32)) := ⟨_, (Arv.new A28 (by decide)).pad (pad_rep [] (.int (0 : Int32)) 1)⟩
      refine ORchB.go (g' := (mkF m 156 (la0_18 p0 p1 p2 p3 p4 p5 b0_113) [(.ref b0_154)])) st28 ?_
      refine ORchB.go (T' := T28) (g' := (mkF m 169 (la0_19 p0 p1 p2 p3 p4 p5 b0_113 b0_154) [(.int (v0_82 p0 p1 p2 p3 p4 p5)), (.int (0 : Int32)), (.ref b0_154)])) (fun t k => ?_) ?_
      · show Steps p.tables e below (T28.setTop (mkF m 156 (la0_18 p0 p1 p2 p3 p4 p5 b0_113) [(.ref b0_154)])) t
        refine XS.astore X28.here hx rfl (hb hby at_156) rfl rfl (l' := (la0_19 p0 p1 p2 p3 p4 p5 b0_113 b0_154)) rfl ?_
        show Steps p.tables e below (T28.setTop (mkF m 158 (la0_19 p0 p1 p2 p3 p4 p5 b0_113 b0_154) [])) t
        refine XS.iload X28.here hx rfl (hb hby at_158) rfl ?_
        show Steps p.tables e below (T28.setTop (mkF m 160 (la0_19 p0 p1 p2 p3 p4 p5 b0_113 b0_154) [(.int (1 : Int32))])) t
        refine XS.iconst X28.here hx rfl (hb hby at_160) ?_
        show Steps p.tables e below (T28.setTop (mkF m 161 (la0_19 p0 p1 p2 p3 p4 p5 b0_113 b0_154) [(.int (1 : Int32)), (.int (1 : Int32))])) t
        refine XS.icmpNo X28.here hx rfl (hb hby at_161) rfl (teq ((by decide))).2 ?_
        show Steps p.tables e below (T28.setTop (mkF m 164 (la0_19 p0 p1 p2 p3 p4 p5 b0_113 b0_154) [])) t
        refine XS.aload X28.here hx rfl (hb hby at_164) rfl rfl ?_
        show Steps p.tables e below (T28.setTop (mkF m 166 (la0_19 p0 p1 p2 p3 p4 p5 b0_113 b0_154) [(.ref b0_154)])) t
        refine XS.iconst X28.here hx rfl (hb hby at_166) ?_
        show Steps p.tables e below (T28.setTop (mkF m 167 (la0_19 p0 p1 p2 p3 p4 p5 b0_113 b0_154) [(.int (0 : Int32)), (.ref b0_154)])) t
        refine XS.iload X28.here hx rfl (hb hby at_167) rfl ?_
        show Steps p.tables e below (T28.setTop (mkF m 169 (la0_19 p0 p1 p2 p3 p4 p5 b0_113 b0_154) [(.int (v0_82 p0 p1 p2 p3 p4 p5)), (.int (0 : Int32)), (.ref b0_154)])) t
        exact k
      obtain ⟨kc30, cl30, Ar30, q30, S30, M30, H30, G30⟩ := id V28
      have hin30 : ¬ ((0 : Int32) < 0 ∨ cl30.slots.size ≤ ((0 : Int32)).toNatClampNeg) := inb_of S30 ⟨by decide, by decide⟩
      obtain ⟨T30, h30, X30, e30, W30, st30⟩ := stI X28 hx hZ e28 Ar30 (j := (0 : Int32)) hin30 (g := (mkF m 169 (la0_19 p0 p1 p2 p3 p4 p5 b0_113 b0_154) [(.int (v0_82 p0 p1 p2 p3 p4 p5)), (.int (0 : Int32)), (.ref b0_154)])) rfl rfl (hb hby at_169)
      have N30 := Fr.snoc X30 N12 gle_b0_154
      have Z30 : n0 ≤ h30.size := Nat.le_trans Z28 (Keep.of_wr W30).1
      have K30 : Keep h12 h30 [] := K28.wr W30 (Or.inr sz_b0_154)
      have V30 : OArr Z h30 b0_154 .int (1 : Int32) [(.int (v0_82 p0 p1 p2 p3 p4 p5))] (.int (0 : Int32)) := ⟨_, Arv.set Ar30 q30 S30 M30 H30 G30 rfl W30 0 rfl (Nat.le_of_ble_eq_true rfl)⟩
      have fc31 : OArr Z h30 b0_113 .int (p5 &&& (3 : Int32)) (List.map Value.int (own_t3 (p5 &&& (3 : Int32)) (f1 (f1 p0 p1) p2) (v0_39 p0 p1 p2 p3 p4 p5) (f2 (f2 p0 p1) p2))) (.int (0 : Int32)) := (fc29.other W30 ne_b0_113_b0_154)
      refine ORchB.go (g' := (mkF m 170 (la0_19 p0 p1 p2 p3 p4 p5 b0_113 b0_154) [])) st30 ?_
      refine ORchB.go (T' := T30) (g' := (mkF m 198 (la0_19 p0 p1 p2 p3 p4 p5 b0_113 b0_154) [])) (fun t k => ?_) ?_
      · show Steps p.tables e below (T30.setTop (mkF m 170 (la0_19 p0 p1 p2 p3 p4 p5 b0_113 b0_154) [])) t
        refine XS.iload X30.here hx rfl (hb hby at_170) rfl ?_
        show Steps p.tables e below (T30.setTop (mkF m 172 (la0_19 p0 p1 p2 p3 p4 p5 b0_113 b0_154) [(.int (1 : Int32))])) t
        refine XS.iconst X30.here hx rfl (hb hby at_172) ?_
        show Steps p.tables e below (T30.setTop (mkF m 173 (la0_19 p0 p1 p2 p3 p4 p5 b0_113 b0_154) [(.int (2 : Int32)), (.int (1 : Int32))])) t
        refine XS.icmpYes X30.here hx rfl (pc0 := 173) (pc' := 198) rfl (hb hby at_173) rfl (feq ((by decide))).2 (by decide) (by decide) ?_
        show Steps p.tables e below (T30.setTop (mkF m 198 (la0_19 p0 p1 p2 p3 p4 p5 b0_113 b0_154) [])) t
        exact k
      exact ⟨_, _, _, _, X30, e30, N30, ⟨gle_b0_154, sz_b0_154, (own_at rfl (P := fun h => Keep h12 h []) K30), (by rw [hs25]; exact V30)⟩, fun t k => (own_k (f := fun (z : Int32) => mkF m 198 #[.val (.int p0), .val (.int p1), .val (.int p2), .val (.int p3), .val (.int p4), .val (.int p5), .val (.int (f1 (f1 p0 p1) p2)), .val (.int (f2 (f2 p0 p1) p2)), .val (.int (v0_39 p0 p1 p2 p3 p4 p5)), .val (.int (p5 &&& (3 : Int32))), .val (.int z), .val (.int (v0_82 p0 p1 p2 p3 p4 p5)), .val (.int (v0_109 p0 p1 p2 p3 p4 p5)), .val (.ref b0_113), .val (.ref b0_154), .unset] []) hs25 k)⟩
    · skip
      refine ORchB.go (T' := T12) (g' := (mkF m 152 (la0_20 p0 p1 p2 p3 p4 p5 b0_113) [])) (fun t k => (own_k (f := fun (z : Int32) => mkF m 152 #[.val (.int p0), .val (.int p1), .val (.int p2), .val (.int p3), .val (.int p4), .val (.int p5), .val (.int (f1 (f1 p0 p1) p2)), .val (.int (f2 (f2 p0 p1) p2)), .val (.int (v0_39 p0 p1 p2 p3 p4 p5)), .val (.int (p5 &&& (3 : Int32))), .val (.int z), .val (.int (v0_82 p0 p1 p2 p3 p4 p5)), .val (.int (v0_109 p0 p1 p2 p3 p4 p5)), .val (.ref b0_113), .unset, .unset] []) hs25.symm k)) ?_
      refine ORchB.go (T' := T12) (g' := (mkF m 154 (la0_20 p0 p1 p2 p3 p4 p5 b0_113) [(.int (2 : Int32))])) (fun t k => ?_) ?_
      · show Steps p.tables e below (T12.setTop (mkF m 152 (la0_20 p0 p1 p2 p3 p4 p5 b0_113) [])) t
        refine XS.iload X12.here hx rfl (hb hby at_152) rfl ?_
        show Steps p.tables e below (T12.setTop (mkF m 154 (la0_20 p0 p1 p2 p3 p4 p5 b0_113) [(.int (2 : Int32))])) t
        exact k
      obtain ⟨T32, h32, k32, X32, e32, E32, A32, st32⟩ := newP X12 hx hZ (hw _ (List.mem_of_getElem? (i := 11) rfl)) e12 (g := (mkF m 154 (la0_20 p0 p1 p2 p3 p4 p5 b0_113) [(.int (2 : Int32))])) rfl (hb hby at_154) rfl (by decide) (cap := 2) (by decide) (by decide) (by decide) (by decide)
      obtain ⟨b0_154, g32⟩ : ∃ z, z = h12.size := ⟨_, rfl⟩
      rw [← g32] at A32 st32
      have gle_b0_154 : n0 ≤ b0_154 := Nat.le_trans Z12 (Nat.le_of_eq g32.symm)
      have sz_b0_154 : h12.size ≤ b0_154 := Nat.le_trans KR24.1 (Nat.le_of_eq g32.symm)
      have ne_b0_113_b0_154 : b0_113 ≠ b0_154 := Nat.ne_of_lt (Nat.lt_of_lt_of_le u12_3.lt (Nat.le_of_eq g32.symm))
      have fc33 : OArr Z h32 b0_113 .int (p5 &&& (3 : Int32)) (List.map Value.int (own_t3 (p5 &&& (3 : Int32)) (f1 (f1 p0 p1) p2) (v0_39 p0 p1 p2 p3 p4 p5) (f2 (f2 p0 p1) p2))) (.int (0 : Int32)) := (u12_3.ext E32)
      have Z32 : n0 ≤ h32.size := Nat.le_trans Z12 E32.1
      have K32 : Keep h12 h32 [] := KR24.ext E32
      have V32 : OArr Z h32 b0_154 .int (2 : Int32) [(.int (0 : Int32)), (.int (0 : Int32))] (.int (0 : Int32)) := ⟨_, (Arv.new A32 (by decide)).pad (pad_rep [] (.int (0 : Int32)) 2)⟩
      refine ORchB.go (g' := (mkF m 156 (la0_20 p0 p1 p2 p3 p4 p5 b0_113) [(.ref b0_154)])) st32 ?_
      refine ORchB.go (T' := T32) (g' := (mkF m 183 (la0_21 p0 p1 p2 p3 p4 p5 b0_113 b0_154) [(.int (v0_109 p0 p1 p2 p3 p4 p5)), (.int (v0_82 p0 p1 p2 p3 p4 p5)), (.int (0 : Int32)), (.ref b0_154)])) (fun t k => ?_) ?_
      · show Steps p.tables e below (T32.setTop (mkF m 156 (la0_20 p0 p1 p2 p3 p4 p5 b0_113) [(.ref b0_154)])) t
        refine XS.astore X32.here hx rfl (hb hby at_156) rfl rfl (l' := (la0_21 p0 p1 p2 p3 p4 p5 b0_113 b0_154)) rfl ?_
        show Steps p.tables e below (T32.setTop (mkF m 158 (la0_21 p0 p1 p2 p3 p4 p5 b0_113 b0_154) [])) t
        refine XS.iload X32.here hx rfl (hb hby at_158) rfl ?_
        show Steps p.tables e below (T32.setTop (mkF m 160 (la0_21 p0 p1 p2 p3 p4 p5 b0_113 b0_154) [(.int (2 : Int32))])) t
        refine XS.iconst X32.here hx rfl (hb hby at_160) ?_
        show Steps p.tables e below (T32.setTop (mkF m 161 (la0_21 p0 p1 p2 p3 p4 p5 b0_113 b0_154) [(.int (1 : Int32)), (.int (2 : Int32))])) t
        refine XS.icmpYes X32.here hx rfl (pc0 := 161) (pc' := 170) rfl (hb hby at_161) rfl (feq ((by decide))).2 (by decide) (by decide) ?_
        show Steps p.tables e below (T32.setTop (mkF m 170 (la0_21 p0 p1 p2 p3 p4 p5 b0_113 b0_154) [])) t
        refine XS.iload X32.here hx rfl (hb hby at_170) rfl ?_
        show Steps p.tables e below (T32.setTop (mkF m 172 (la0_21 p0 p1 p2 p3 p4 p5 b0_113 b0_154) [(.int (2 : Int32))])) t
        refine XS.iconst X32.here hx rfl (hb hby at_172) ?_
        show Steps p.tables e below (T32.setTop (mkF m 173 (la0_21 p0 p1 p2 p3 p4 p5 b0_113 b0_154) [(.int (2 : Int32)), (.int (2 : Int32))])) t
        refine XS.icmpNo X32.here hx rfl (hb hby at_173) rfl (teq ((by decide))).2 ?_
        show Steps p.tables e below (T32.setTop (mkF m 176 (la0_21 p0 p1 p2 p3 p4 p5 b0_113 b0_154) [])) t
        refine XS.aload X32.here hx rfl (hb hby at_176) rfl rfl ?_
        show Steps p.tables e below (T32.setTop (mkF m 178 (la0_21 p0 p1 p2 p3 p4 p5 b0_113 b0_154) [(.ref b0_154)])) t
        refine XS.iconst X32.here hx rfl (hb hby at_178) ?_
        show Steps p.tables e below (T32.setTop (mkF m 179 (la0_21 p0 p1 p2 p3 p4 p5 b0_113 b0_154) [(.int (0 : Int32)), (.ref b0_154)])) t
        refine XS.iload X32.here hx rfl (hb hby at_179) rfl ?_
        show Steps p.tables e below (T32.setTop (mkF m 181 (la0_21 p0 p1 p2 p3 p4 p5 b0_113 b0_154) [(.int (v0_82 p0 p1 p2 p3 p4 p5)), (.int (0 : Int32)), (.ref b0_154)])) t
        refine XS.iload X32.here hx rfl (hb hby at_181) rfl ?_
        show Steps p.tables e below (T32.setTop (mkF m 183 (la0_21 p0 p1 p2 p3 p4 p5 b0_113 b0_154) [(.int (v0_109 p0 p1 p2 p3 p4 p5)), (.int (v0_82 p0 p1 p2 p3 p4 p5)), (.int (0 : Int32)), (.ref b0_154)])) t
        exact k
      obtain ⟨_, _, ⟨T34, L34, k34, n34⟩, -, X34, ⟨Lc34, hQ34, l34, y34, z34⟩, st34⟩ := Jvm.LawKit.callS X32 hx (y := (⟨"java/lang/Math", "min", "(II)I"⟩ : MethodName)) hown (mvT hZ (hw _ (List.mem_of_getElem? (i := 0) rfl))) (mvT hZ (hw _ (List.mem_of_getElem? (i := 1) rfl))) (mvT hZ (hw _ (List.mem_of_getElem? (i := 2) rfl))) (mvT hZ (hw _ (List.mem_of_getElem? (i := 3) rfl))) (by decide) (backOf (W := 2) (rm1 l Z aZ hw [] (v0_82 p0 p1 p2 p3 p4 p5) (v0_109 p0 p1 p2 p3 p4 p5) h32 n0 Z32 ) hZ (hw _ (List.mem_of_getElem? (i := 3) rfl)) (hw _ (List.mem_of_getElem? (i := 2) rfl)) (by decide) (by decide)) (g := (mkF m 183 (la0_21 p0 p1 p2 p3 p4 p5 b0_113 b0_154) [(.int (v0_109 p0 p1 p2 p3 p4 p5)), (.int (v0_82 p0 p1 p2 p3 p4 p5)), (.int (0 : Int32)), (.ref b0_154)])) rfl (by rw [hml]; rfl) (argsL := [(.int (v0_82 p0 p1 p2 p3 p4 p5)), (.int (v0_109 p0 p1 p2 p3 p4 p5))]) (rest := [(.int (0 : Int32)), (.ref b0_154)]) (lenOf pd__II_I rfl) rfl (by show 2 * 0 + _ ≤ _; exact Nat.le_of_eq rfl) (hb hby at_183) (fun _ _ => ⟨rfl, e32, (by decide : 2 + 0 ≤ _), (by decide : 5 + 0 ≤ _)⟩)
      dsimp only [Pt.U, Pt.locs, Pt.cells, Pt.slots] at X34 l34 y34 z34 st34 hQ34
      subst l34 y34 z34
      obtain ⟨rfl, N34q, e34⟩ := hQ34
      have N34 := Fr.app N12 N34q
      refine ORchB.go (g' := (mkF m 186 (la0_21 p0 p1 p2 p3 p4 p5 b0_113 b0_154) [(.int (f1 (v0_82 p0 p1 p2 p3 p4 p5) (v0_109 p0 p1 p2 p3 p4 p5))), (.int (0 : Int32)), (.ref b0_154)])) st34 ?_
      obtain ⟨kc35, cl35, Ar35, q35, S35, M35, H35, G35⟩ := id V32
      have hin35 : ¬ ((0 : Int32) < 0 ∨ cl35.slots.size ≤ ((0 : Int32)).toNatClampNeg) := inb_of S35 ⟨by decide, by decide⟩
      obtain ⟨T35, h35, X35, e35, W35, st35⟩ := stI X34 hx hZ e34 Ar35 (j := (0 : Int32)) hin35 (g := (mkF m 186 (la0_21 p0 p1 p2 p3 p4 p5 b0_113 b0_154) [(.int (f1 (v0_82 p0 p1 p2 p3 p4 p5) (v0_109 p0 p1 p2 p3 p4 p5))), (.int (0 : Int32)), (.ref b0_154)])) rfl rfl (hb hby at_186)
      have N35 := Fr.snoc X35 N34 gle_b0_154
      have Z35 : n0 ≤ h35.size := Nat.le_trans Z32 (Keep.of_wr W35).1
      have K35 : Keep h12 h35 [] := K32.wr W35 (Or.inr sz_b0_154)
      have V35 : OArr Z h35 b0_154 .int (2 : Int32) [(.int (f1 (v0_82 p0 p1 p2 p3 p4 p5) (v0_109 p0 p1 p2 p3 p4 p5))), (.int (0 : Int32))] (.int (0 : Int32)) := ⟨_, Arv.set Ar35 q35 S35 M35 H35 G35 rfl W35 0 rfl (Nat.le_of_ble_eq_true rfl)⟩
      have fc36 : OArr Z h35 b0_113 .int (p5 &&& (3 : Int32)) (List.map Value.int (own_t3 (p5 &&& (3 : Int32)) (f1 (f1 p0 p1) p2) (v0_39 p0 p1 p2 p3 p4 p5) (f2 (f2 p0 p1) p2))) (.int (0 : Int32)) := (fc33.other W35 ne_b0_113_b0_154)
      refine ORchB.go (g' := (mkF m 187 (la0_21 p0 p1 p2 p3 p4 p5 b0_113 b0_154) [])) st35 ?_
      refine ORchB.go (T' := T35) (g' := (mkF m 194 (la0_21 p0 p1 p2 p3 p4 p5 b0_113 b0_154) [(.int (v0_109 p0 p1 p2 p3 p4 p5)), (.int (v0_82 p0 p1 p2 p3 p4 p5)), (.int (1 : Int32)), (.ref b0_154)])) (fun t k => ?_) ?_
      · show Steps p.tables e below (T35.setTop (mkF m 187 (la0_21 p0 p1 p2 p3 p4 p5 b0_113 b0_154) [])) t
        refine XS.aload X35.here hx rfl (hb hby at_187) rfl rfl ?_
        show Steps p.tables e below (T35.setTop (mkF m 189 (la0_21 p0 p1 p2 p3 p4 p5 b0_113 b0_154) [(.ref b0_154)])) t
        refine XS.iconst X35.here hx rfl (hb hby at_189) ?_
        show Steps p.tables e below (T35.setTop (mkF m 190 (la0_21 p0 p1 p2 p3 p4 p5 b0_113 b0_154) [(.int (1 : Int32)), (.ref b0_154)])) t
        refine XS.iload X35.here hx rfl (hb hby at_190) rfl ?_
        show Steps p.tables e below (T35.setTop (mkF m 192 (la0_21 p0 p1 p2 p3 p4 p5 b0_113 b0_154) [(.int (v0_82 p0 p1 p2 p3 p4 p5)), (.int (1 : Int32)), (.ref b0_154)])) t
        refine XS.iload X35.here hx rfl (hb hby at_192) rfl ?_
        show Steps p.tables e below (T35.setTop (mkF m 194 (la0_21 p0 p1 p2 p3 p4 p5 b0_113 b0_154) [(.int (v0_109 p0 p1 p2 p3 p4 p5)), (.int (v0_82 p0 p1 p2 p3 p4 p5)), (.int (1 : Int32)), (.ref b0_154)])) t
        exact k
      obtain ⟨_, _, ⟨T37, L37, k37, n37⟩, -, X37, ⟨Lc37, hQ37, l37, y37, z37⟩, st37⟩ := Jvm.LawKit.callS X35 hx (y := (⟨"java/lang/Math", "max", "(II)I"⟩ : MethodName)) hown (mvT hZ (hw _ (List.mem_of_getElem? (i := 4) rfl))) (mvT hZ (hw _ (List.mem_of_getElem? (i := 5) rfl))) (mvT hZ (hw _ (List.mem_of_getElem? (i := 2) rfl))) (mvT hZ (hw _ (List.mem_of_getElem? (i := 6) rfl))) (by decide) (backOf (W := 2) (rm2 l Z aZ hw [] (v0_82 p0 p1 p2 p3 p4 p5) (v0_109 p0 p1 p2 p3 p4 p5) h35 n0 Z35 ) hZ (hw _ (List.mem_of_getElem? (i := 6) rfl)) (hw _ (List.mem_of_getElem? (i := 2) rfl)) (by decide) (by decide)) (g := (mkF m 194 (la0_21 p0 p1 p2 p3 p4 p5 b0_113 b0_154) [(.int (v0_109 p0 p1 p2 p3 p4 p5)), (.int (v0_82 p0 p1 p2 p3 p4 p5)), (.int (1 : Int32)), (.ref b0_154)])) rfl (by rw [hml]; rfl) (argsL := [(.int (v0_82 p0 p1 p2 p3 p4 p5)), (.int (v0_109 p0 p1 p2 p3 p4 p5))]) (rest := [(.int (1 : Int32)), (.ref b0_154)]) (lenOf pd__II_I rfl) rfl (by show 2 * 0 + _ ≤ _; exact Nat.le_of_eq rfl) (hb hby at_194) (fun _ _ => ⟨rfl, e35, (by decide : 2 + 0 ≤ _), (by decide : 5 + 0 ≤ _)⟩)
      dsimp only [Pt.U, Pt.locs, Pt.cells, Pt.slots] at X37 l37 y37 z37 st37 hQ37
      subst l37 y37 z37
      obtain ⟨rfl, N37q, e37⟩ := hQ37
      have N37 := Fr.app N35 N37q
      refine ORchB.go (g' := (mkF m 197 (la0_21 p0 p1 p2 p3 p4 p5 b0_113 b0_154) [(.int (f2 (v0_82 p0 p1 p2 p3 p4 p5) (v0_109 p0 p1 p2 p3 p4 p5))), (.int (1 : Int32)), (.ref b0_154)])) st37 ?_
      obtain ⟨kc38, cl38, Ar38, q38, S38, M38, H38, G38⟩ := id V35
      have hin38 : ¬ ((1 : Int32) < 0 ∨ cl38.slots.size ≤ ((1 : Int32)).toNatClampNeg) := inb_of S38 ⟨by decide, by decide⟩
      obtain ⟨T38, h38, X38, e38, W38, st38⟩ := stI X37 hx hZ e37 Ar38 (j := (1 : Int32)) hin38 (g := (mkF m 197 (la0_21 p0 p1 p2 p3 p4 p5 b0_113 b0_154) [(.int (f2 (v0_82 p0 p1 p2 p3 p4 p5) (v0_109 p0 p1 p2 p3 p4 p5))), (.int (1 : Int32)), (.ref b0_154)])) rfl rfl (hb hby at_197)
      have N38 := Fr.snoc X38 N37 gle_b0_154
      have Z38 : n0 ≤ h38.size := Nat.le_trans Z35 (Keep.of_wr W38).1
      have K38 : Keep h12 h38 [] := K35.wr W38 (Or.inr sz_b0_154)
      have V38 : OArr Z h38 b0_154 .int (2 : Int32) [(.int (f1 (v0_82 p0 p1 p2 p3 p4 p5) (v0_109 p0 p1 p2 p3 p4 p5))), (.int (f2 (v0_82 p0 p1 p2 p3 p4 p5) (v0_109 p0 p1 p2 p3 p4 p5)))] (.int (0 : Int32)) := ⟨_, Arv.set Ar38 q38 S38 M38 H38 G38 rfl W38 1 rfl (Nat.le_of_ble_eq_true rfl)⟩
      have fc39 : OArr Z h38 b0_113 .int (p5 &&& (3 : Int32)) (List.map Value.int (own_t3 (p5 &&& (3 : Int32)) (f1 (f1 p0 p1) p2) (v0_39 p0 p1 p2 p3 p4 p5) (f2 (f2 p0 p1) p2))) (.int (0 : Int32)) := (fc36.other W38 ne_b0_113_b0_154)
      refine ORchB.go (g' := (mkF m 198 (la0_21 p0 p1 p2 p3 p4 p5 b0_113 b0_154) [])) st38 ?_
      exact ⟨_, _, _, _, X38, e38, N38, ⟨gle_b0_154, sz_b0_154, (own_at rfl (P := fun h => Keep h12 h []) K38), (by rw [hs25]; exact V38)⟩, fun t k => (own_k (f := fun (z : Int32) => mkF m 198 #[.val (.int p0), .val (.int p1), .val (.int p2), .val (.int p3), .val (.int p4), .val (.int p5), .val (.int (f1 (f1 p0 p1) p2)), .val (.int (f2 (f2 p0 p1) p2)), .val (.int (v0_39 p0 p1 p2 p3 p4 p5)), .val (.int (p5 &&& (3 : Int32))), .val (.int z), .val (.int (v0_82 p0 p1 p2 p3 p4 p5)), .val (.int (v0_109 p0 p1 p2 p3 p4 p5)), .val (.ref b0_113), .val (.ref b0_154), .unset] []) hs25 k)⟩
  have Z24 : n0 ≤ h24.size := Nat.le_trans Z12 u24_2.1
  have gle_b0_154 := u24_0
  have ne_b0_113_b0_154 : b0_113 ≠ b0_154 := Nat.ne_of_lt (Nat.lt_of_lt_of_le u12_3.lt u24_1)
  have fc40 : OArr Z h24 b0_113 .int (p5 &&& (3 : Int32)) (List.map Value.int (own_t3 (p5 &&& (3 : Int32)) (f1 (f1 p0 p1) p2) (v0_39 p0 p1 p2 p3 p4 p5) (f2 (f2 p0 p1) p2))) (.int (0 : Int32)) := (u12_3.keep u24_2 nin0)
  refine OEnd.go (g' := (mkF m 198 (la0_22 p0 p1 p2 p3 p4 p5 b0_113 b0_154) [])) st24 ?_
  refine OEnd.go (T' := T24) (g' := (mkF m 201 (la0_22 p0 p1 p2 p3 p4 p5 b0_113 b0_154) [(.int (1 : Int32)), (.int (v0_57 p0 p1 p2 p3 p4 p5))])) (fun t k => ?_) ?_
  · show Steps p.tables e below (T24.setTop (mkF m 198 (la0_22 p0 p1 p2 p3 p4 p5 b0_113 b0_154) [])) t
    refine XS.iload X24.here hx rfl (hb hby at_198) rfl ?_
    show Steps p.tables e below (T24.setTop (mkF m 200 (la0_22 p0 p1 p2 p3 p4 p5 b0_113 b0_154) [(.int (v0_57 p0 p1 p2 p3 p4 p5))])) t
    refine XS.iconst X24.here hx rfl (hb hby at_200) ?_
    show Steps p.tables e below (T24.setTop (mkF m 201 (la0_22 p0 p1 p2 p3 p4 p5 b0_113 b0_154) [(.int (1 : Int32)), (.int (v0_57 p0 p1 p2 p3 p4 p5))])) t
    exact k
  obtain ⟨T42, L42, X42, e42, N42, st42⟩ : ORch p l e room_1 s m #[(.int p0), (.int p1), (.int p2), (.int p3), (.int p4), (.int p5)] below meth c n0 T24 (mkF m 201 (la0_22 p0 p1 p2 p3 p4 p5 b0_113 b0_154) [(.int (1 : Int32)), (.int (v0_57 p0 p1 p2 p3 p4 p5))]) h24 (mkF m 247 (la0_22 p0 p1 p2 p3 p4 p5 b0_113 b0_154) [(.int (if (v0_57 p0 p1 p2 p3 p4 p5) < (1 : Int32) then (if (v0_57 p0 p1 p2 p3 p4 p5) < (2 : Int32) then (1 : Int32) else (if (f5 (v0_109 p0 p1 p2 p3 p4 p5) (p5 &&& (3 : Int32)) (f1 (f1 p0 p1) p2) (v0_39 p0 p1 p2 p3 p4 p5) (f2 (f2 p0 p1) p2)) = (0 : Int32) then (0 : Int32) else (1 : Int32))) else (if (f5 (v0_82 p0 p1 p2 p3 p4 p5) (p5 &&& (3 : Int32)) (f1 (f1 p0 p1) p2) (v0_39 p0 p1 p2 p3 p4 p5) (f2 (f2 p0 p1) p2)) = (0 : Int32) then (0 : Int32) else (if (v0_57 p0 p1 p2 p3 p4 p5) < (2 : Int32) then (1 : Int32) else (if (f5 (v0_109 p0 p1 p2 p3 p4 p5) (p5 &&& (3 : Int32)) (f1 (f1 p0 p1) p2) (v0_39 p0 p1 p2 p3 p4 p5) (f2 (f2 p0 p1) p2)) = (0 : Int32) then (0 : Int32) else (1 : Int32))))))]) 2 5 := by
    by_cases hc41 : (v0_57 p0 p1 p2 p3 p4 p5) < (1 : Int32)
    · skip
      refine ORch.go (T' := T24) (g' := (mkF m 220 (la0_22 p0 p1 p2 p3 p4 p5 b0_113 b0_154) [])) (fun t k => ?_) ?_
      · show Steps p.tables e below (T24.setTop (mkF m 201 (la0_22 p0 p1 p2 p3 p4 p5 b0_113 b0_154) [(.int (1 : Int32)), (.int (v0_57 p0 p1 p2 p3 p4 p5))])) t
        refine XS.icmpYes X24.here hx rfl (pc0 := 201) (pc' := 220) rfl (hb hby at_201) rfl (tlt (hc41)).1 (by decide) (by decide) ?_
        show Steps p.tables e below (T24.setTop (mkF m 220 (la0_22 p0 p1 p2 p3 p4 p5 b0_113 b0_154) [])) t
        exact k
      refine ORch.go (T' := T24) (g' := (mkF m 223 (la0_22 p0 p1 p2 p3 p4 p5 b0_113 b0_154) [(.int (2 : Int32)), (.int (v0_57 p0 p1 p2 p3 p4 p5))])) (fun t k => ?_) ?_
      · show Steps p.tables e below (T24.setTop (mkF m 220 (la0_22 p0 p1 p2 p3 p4 p5 b0_113 b0_154) [])) t
        refine XS.iload X24.here hx rfl (hb hby at_220) rfl ?_
        show Steps p.tables e below (T24.setTop (mkF m 222 (la0_22 p0 p1 p2 p3 p4 p5 b0_113 b0_154) [(.int (v0_57 p0 p1 p2 p3 p4 p5))])) t
        refine XS.iconst X24.here hx rfl (hb hby at_222) ?_
        show Steps p.tables e below (T24.setTop (mkF m 223 (la0_22 p0 p1 p2 p3 p4 p5 b0_113 b0_154) [(.int (2 : Int32)), (.int (v0_57 p0 p1 p2 p3 p4 p5))])) t
        exact k
      by_cases hc43 : (v0_57 p0 p1 p2 p3 p4 p5) < (2 : Int32)
      · skip
        refine ORch.go (T' := T24) (g' := (mkF m 242 (la0_22 p0 p1 p2 p3 p4 p5 b0_113 b0_154) [])) (fun t k => ?_) ?_
        · show Steps p.tables e below (T24.setTop (mkF m 223 (la0_22 p0 p1 p2 p3 p4 p5 b0_113 b0_154) [(.int (2 : Int32)), (.int (v0_57 p0 p1 p2 p3 p4 p5))])) t
          refine XS.icmpYes X24.here hx rfl (pc0 := 223) (pc' := 242) rfl (hb hby at_223) rfl (tlt (hc43)).1 (by decide) (by decide) ?_
          show Steps p.tables e below (T24.setTop (mkF m 242 (la0_22 p0 p1 p2 p3 p4 p5 b0_113 b0_154) [])) t
          exact k
        refine ORch.go (T' := T24) (g' := (mkF m 247 (la0_22 p0 p1 p2 p3 p4 p5 b0_113 b0_154) [(.int (1 : Int32))])) (fun t k => ?_) ?_
        · show Steps p.tables e below (T24.setTop (mkF m 242 (la0_22 p0 p1 p2 p3 p4 p5 b0_113 b0_154) [])) t
          refine XS.iconst X24.here hx rfl (hb hby at_242) ?_
          show Steps p.tables e below (T24.setTop (mkF m 243 (la0_22 p0 p1 p2 p3 p4 p5 b0_113 b0_154) [(.int (1 : Int32))])) t
          refine XS.goto X24.here hx rfl (pc0 := 243) (pc' := 247) rfl (hb hby at_243) (by decide) (by decide) ?_
          show Steps p.tables e below (T24.setTop (mkF m 247 (la0_22 p0 p1 p2 p3 p4 p5 b0_113 b0_154) [(.int (1 : Int32))])) t
          exact k
        exact ⟨_, _, X24, e24, N24, fun t k => (own_k (f := fun (z : Int32) => mkF m 247 #[.val (.int p0), .val (.int p1), .val (.int p2), .val (.int p3), .val (.int p4), .val (.int p5), .val (.int (f1 (f1 p0 p1) p2)), .val (.int (f2 (f2 p0 p1) p2)), .val (.int (v0_39 p0 p1 p2 p3 p4 p5)), .val (.int (p5 &&& (3 : Int32))), .val (.int (v0_57 p0 p1 p2 p3 p4 p5)), .val (.int (v0_82 p0 p1 p2 p3 p4 p5)), .val (.int (v0_109 p0 p1 p2 p3 p4 p5)), .val (.ref b0_113), .val (.ref b0_154), .unset] [(.int z)]) ((if_pos hc41).trans (if_pos hc43)) k)⟩
      · skip
        refine ORch.go (T' := T24) (g' := (mkF m 226 (la0_22 p0 p1 p2 p3 p4 p5 b0_113 b0_154) [])) (fun t k => ?_) ?_
        · show Steps p.tables e below (T24.setTop (mkF m 223 (la0_22 p0 p1 p2 p3 p4 p5 b0_113 b0_154) [(.int (2 : Int32)), (.int (v0_57 p0 p1 p2 p3 p4 p5))])) t
          refine XS.icmpNo X24.here hx rfl (hb hby at_223) rfl (flt (hc43)).1 ?_
          show Steps p.tables e below (T24.setTop (mkF m 226 (la0_22 p0 p1 p2 p3 p4 p5 b0_113 b0_154) [])) t
          exact k
        refine ORch.go (T' := T24) (g' := (mkF m 236 (la0_22 p0 p1 p2 p3 p4 p5 b0_113 b0_154) [(.int (f2 (f2 p0 p1) p2)), (.int (v0_39 p0 p1 p2 p3 p4 p5)), (.int (f1 (f1 p0 p1) p2)), (.int (p5 &&& (3 : Int32))), (.int (v0_109 p0 p1 p2 p3 p4 p5))])) (fun t k => ?_) ?_
        · show Steps p.tables e below (T24.setTop (mkF m 226 (la0_22 p0 p1 p2 p3 p4 p5 b0_113 b0_154) [])) t
          refine XS.iload X24.here hx rfl (hb hby at_226) rfl ?_
          show Steps p.tables e below (T24.setTop (mkF m 228 (la0_22 p0 p1 p2 p3 p4 p5 b0_113 b0_154) [(.int (v0_109 p0 p1 p2 p3 p4 p5))])) t
          refine XS.iload X24.here hx rfl (hb hby at_228) rfl ?_
          show Steps p.tables e below (T24.setTop (mkF m 230 (la0_22 p0 p1 p2 p3 p4 p5 b0_113 b0_154) [(.int (p5 &&& (3 : Int32))), (.int (v0_109 p0 p1 p2 p3 p4 p5))])) t
          refine XS.iload X24.here hx rfl (hb hby at_230) rfl ?_
          show Steps p.tables e below (T24.setTop (mkF m 232 (la0_22 p0 p1 p2 p3 p4 p5 b0_113 b0_154) [(.int (f1 (f1 p0 p1) p2)), (.int (p5 &&& (3 : Int32))), (.int (v0_109 p0 p1 p2 p3 p4 p5))])) t
          refine XS.iload X24.here hx rfl (hb hby at_232) rfl ?_
          show Steps p.tables e below (T24.setTop (mkF m 234 (la0_22 p0 p1 p2 p3 p4 p5 b0_113 b0_154) [(.int (v0_39 p0 p1 p2 p3 p4 p5)), (.int (f1 (f1 p0 p1) p2)), (.int (p5 &&& (3 : Int32))), (.int (v0_109 p0 p1 p2 p3 p4 p5))])) t
          refine XS.iload X24.here hx rfl (hb hby at_234) rfl ?_
          show Steps p.tables e below (T24.setTop (mkF m 236 (la0_22 p0 p1 p2 p3 p4 p5 b0_113 b0_154) [(.int (f2 (f2 p0 p1) p2)), (.int (v0_39 p0 p1 p2 p3 p4 p5)), (.int (f1 (f1 p0 p1) p2)), (.int (p5 &&& (3 : Int32))), (.int (v0_109 p0 p1 p2 p3 p4 p5))])) t
          exact k
        obtain ⟨_, _, ⟨T44, L44, k44, n44⟩, -, X44, ⟨Lc44, hQ44, l44, y44, z44⟩, st44⟩ := Jvm.LawKit.callS X24 hx (y := (⟨"com/example/nuthatch/nuthatch/logic/DemandsWithinPinLaw", "member", "(IIIII)Z"⟩ : MethodName)) hown (mvT hZ (hw _ (List.mem_of_getElem? (i := 16) rfl))) (mvT hZ (hw _ (List.mem_of_getElem? (i := 17) rfl))) (mvT hZ (hw _ (List.mem_of_getElem? (i := 9) rfl))) (mvT hZ (hw _ (List.mem_of_getElem? (i := 18) rfl))) (by decide) (backOf (W := 0) (rm5 l Z aZ hw [] (v0_109 p0 p1 p2 p3 p4 p5) (p5 &&& (3 : Int32)) (f1 (f1 p0 p1) p2) (v0_39 p0 p1 p2 p3 p4 p5) (f2 (f2 p0 p1) p2) h24 n0 Z24 ) hZ (hw _ (List.mem_of_getElem? (i := 18) rfl)) (hw _ (List.mem_of_getElem? (i := 9) rfl)) (by decide) (by decide)) (g := (mkF m 236 (la0_22 p0 p1 p2 p3 p4 p5 b0_113 b0_154) [(.int (f2 (f2 p0 p1) p2)), (.int (v0_39 p0 p1 p2 p3 p4 p5)), (.int (f1 (f1 p0 p1) p2)), (.int (p5 &&& (3 : Int32))), (.int (v0_109 p0 p1 p2 p3 p4 p5))])) rfl (by rw [hml]; rfl) (argsL := [(.int (v0_109 p0 p1 p2 p3 p4 p5)), (.int (p5 &&& (3 : Int32))), (.int (f1 (f1 p0 p1) p2)), (.int (v0_39 p0 p1 p2 p3 p4 p5)), (.int (f2 (f2 p0 p1) p2))]) (rest := []) (lenOf pd__IIIII_Z rfl) rfl (by show 2 * 0 + _ ≤ _; exact Nat.le_of_eq rfl) (hb hby at_236) (fun _ _ => ⟨rfl, e24, (by decide : 2 + 0 ≤ _), (by decide : 5 + 0 ≤ _)⟩)
        dsimp only [Pt.U, Pt.locs, Pt.cells, Pt.slots] at X44 l44 y44 z44 st44 hQ44
        subst l44 y44 z44
        obtain ⟨rfl, N44q, e44⟩ := hQ44
        have N44 := Fr.app N24 N44q
        refine ORch.go (g' := (mkF m 239 (la0_22 p0 p1 p2 p3 p4 p5 b0_113 b0_154) [(.int (f5 (v0_109 p0 p1 p2 p3 p4 p5) (p5 &&& (3 : Int32)) (f1 (f1 p0 p1) p2) (v0_39 p0 p1 p2 p3 p4 p5) (f2 (f2 p0 p1) p2)))])) st44 ?_
        by_cases hc45 : (f5 (v0_109 p0 p1 p2 p3 p4 p5) (p5 &&& (3 : Int32)) (f1 (f1 p0 p1) p2) (v0_39 p0 p1 p2 p3 p4 p5) (f2 (f2 p0 p1) p2)) = (0 : Int32)
        · skip
          refine ORch.go (T' := T44) (g' := (mkF m 246 (la0_22 p0 p1 p2 p3 p4 p5 b0_113 b0_154) [])) (fun t k => ?_) ?_
          · show Steps p.tables e below (T44.setTop (mkF m 239 (la0_22 p0 p1 p2 p3 p4 p5 b0_113 b0_154) [(.int (f5 (v0_109 p0 p1 p2 p3 p4 p5) (p5 &&& (3 : Int32)) (f1 (f1 p0 p1) p2) (v0_39 p0 p1 p2 p3 p4 p5) (f2 (f2 p0 p1) p2)))])) t
            refine XS.ifYes X44.here hx rfl (pc0 := 239) (pc' := 246) rfl (hb hby at_239) rfl ((if0 _ _).trans (teq (hc45)).1) (by decide) (by decide) ?_
            show Steps p.tables e below (T44.setTop (mkF m 246 (la0_22 p0 p1 p2 p3 p4 p5 b0_113 b0_154) [])) t
            exact k
          refine ORch.go (T' := T44) (g' := (mkF m 247 (la0_22 p0 p1 p2 p3 p4 p5 b0_113 b0_154) [(.int (0 : Int32))])) (fun t k => ?_) ?_
          · show Steps p.tables e below (T44.setTop (mkF m 246 (la0_22 p0 p1 p2 p3 p4 p5 b0_113 b0_154) [])) t
            refine XS.iconst X44.here hx rfl (hb hby at_246) ?_
            show Steps p.tables e below (T44.setTop (mkF m 247 (la0_22 p0 p1 p2 p3 p4 p5 b0_113 b0_154) [(.int (0 : Int32))])) t
            exact k
          exact ⟨_, _, X44, e44, N44, fun t k => (own_k (f := fun (z : Int32) => mkF m 247 #[.val (.int p0), .val (.int p1), .val (.int p2), .val (.int p3), .val (.int p4), .val (.int p5), .val (.int (f1 (f1 p0 p1) p2)), .val (.int (f2 (f2 p0 p1) p2)), .val (.int (v0_39 p0 p1 p2 p3 p4 p5)), .val (.int (p5 &&& (3 : Int32))), .val (.int (v0_57 p0 p1 p2 p3 p4 p5)), .val (.int (v0_82 p0 p1 p2 p3 p4 p5)), .val (.int (v0_109 p0 p1 p2 p3 p4 p5)), .val (.ref b0_113), .val (.ref b0_154), .unset] [(.int z)]) ((if_pos hc41).trans ((if_neg hc43).trans (if_pos hc45))) k)⟩
        · skip
          refine ORch.go (T' := T44) (g' := (mkF m 242 (la0_22 p0 p1 p2 p3 p4 p5 b0_113 b0_154) [])) (fun t k => ?_) ?_
          · show Steps p.tables e below (T44.setTop (mkF m 239 (la0_22 p0 p1 p2 p3 p4 p5 b0_113 b0_154) [(.int (f5 (v0_109 p0 p1 p2 p3 p4 p5) (p5 &&& (3 : Int32)) (f1 (f1 p0 p1) p2) (v0_39 p0 p1 p2 p3 p4 p5) (f2 (f2 p0 p1) p2)))])) t
            refine XS.ifNo X44.here hx rfl (hb hby at_239) rfl ((if0 _ _).trans (feq (hc45)).1) ?_
            show Steps p.tables e below (T44.setTop (mkF m 242 (la0_22 p0 p1 p2 p3 p4 p5 b0_113 b0_154) [])) t
            exact k
          refine ORch.go (T' := T44) (g' := (mkF m 247 (la0_22 p0 p1 p2 p3 p4 p5 b0_113 b0_154) [(.int (1 : Int32))])) (fun t k => ?_) ?_
          · show Steps p.tables e below (T44.setTop (mkF m 242 (la0_22 p0 p1 p2 p3 p4 p5 b0_113 b0_154) [])) t
            refine XS.iconst X44.here hx rfl (hb hby at_242) ?_
            show Steps p.tables e below (T44.setTop (mkF m 243 (la0_22 p0 p1 p2 p3 p4 p5 b0_113 b0_154) [(.int (1 : Int32))])) t
            refine XS.goto X44.here hx rfl (pc0 := 243) (pc' := 247) rfl (hb hby at_243) (by decide) (by decide) ?_
            show Steps p.tables e below (T44.setTop (mkF m 247 (la0_22 p0 p1 p2 p3 p4 p5 b0_113 b0_154) [(.int (1 : Int32))])) t
            exact k
          exact ⟨_, _, X44, e44, N44, fun t k => (own_k (f := fun (z : Int32) => mkF m 247 #[.val (.int p0), .val (.int p1), .val (.int p2), .val (.int p3), .val (.int p4), .val (.int p5), .val (.int (f1 (f1 p0 p1) p2)), .val (.int (f2 (f2 p0 p1) p2)), .val (.int (v0_39 p0 p1 p2 p3 p4 p5)), .val (.int (p5 &&& (3 : Int32))), .val (.int (v0_57 p0 p1 p2 p3 p4 p5)), .val (.int (v0_82 p0 p1 p2 p3 p4 p5)), .val (.int (v0_109 p0 p1 p2 p3 p4 p5)), .val (.ref b0_113), .val (.ref b0_154), .unset] [(.int z)]) ((if_pos hc41).trans ((if_neg hc43).trans (if_neg hc45))) k)⟩
    · skip
      refine ORch.go (T' := T24) (g' := (mkF m 204 (la0_22 p0 p1 p2 p3 p4 p5 b0_113 b0_154) [])) (fun t k => ?_) ?_
      · show Steps p.tables e below (T24.setTop (mkF m 201 (la0_22 p0 p1 p2 p3 p4 p5 b0_113 b0_154) [(.int (1 : Int32)), (.int (v0_57 p0 p1 p2 p3 p4 p5))])) t
        refine XS.icmpNo X24.here hx rfl (hb hby at_201) rfl (flt (hc41)).1 ?_
        show Steps p.tables e below (T24.setTop (mkF m 204 (la0_22 p0 p1 p2 p3 p4 p5 b0_113 b0_154) [])) t
        exact k
      refine ORch.go (T' := T24) (g' := (mkF m 214 (la0_22 p0 p1 p2 p3 p4 p5 b0_113 b0_154) [(.int (f2 (f2 p0 p1) p2)), (.int (v0_39 p0 p1 p2 p3 p4 p5)), (.int (f1 (f1 p0 p1) p2)), (.int (p5 &&& (3 : Int32))), (.int (v0_82 p0 p1 p2 p3 p4 p5))])) (fun t k => ?_) ?_
      · show Steps p.tables e below (T24.setTop (mkF m 204 (la0_22 p0 p1 p2 p3 p4 p5 b0_113 b0_154) [])) t
        refine XS.iload X24.here hx rfl (hb hby at_204) rfl ?_
        show Steps p.tables e below (T24.setTop (mkF m 206 (la0_22 p0 p1 p2 p3 p4 p5 b0_113 b0_154) [(.int (v0_82 p0 p1 p2 p3 p4 p5))])) t
        refine XS.iload X24.here hx rfl (hb hby at_206) rfl ?_
        show Steps p.tables e below (T24.setTop (mkF m 208 (la0_22 p0 p1 p2 p3 p4 p5 b0_113 b0_154) [(.int (p5 &&& (3 : Int32))), (.int (v0_82 p0 p1 p2 p3 p4 p5))])) t
        refine XS.iload X24.here hx rfl (hb hby at_208) rfl ?_
        show Steps p.tables e below (T24.setTop (mkF m 210 (la0_22 p0 p1 p2 p3 p4 p5 b0_113 b0_154) [(.int (f1 (f1 p0 p1) p2)), (.int (p5 &&& (3 : Int32))), (.int (v0_82 p0 p1 p2 p3 p4 p5))])) t
        refine XS.iload X24.here hx rfl (hb hby at_210) rfl ?_
        show Steps p.tables e below (T24.setTop (mkF m 212 (la0_22 p0 p1 p2 p3 p4 p5 b0_113 b0_154) [(.int (v0_39 p0 p1 p2 p3 p4 p5)), (.int (f1 (f1 p0 p1) p2)), (.int (p5 &&& (3 : Int32))), (.int (v0_82 p0 p1 p2 p3 p4 p5))])) t
        refine XS.iload X24.here hx rfl (hb hby at_212) rfl ?_
        show Steps p.tables e below (T24.setTop (mkF m 214 (la0_22 p0 p1 p2 p3 p4 p5 b0_113 b0_154) [(.int (f2 (f2 p0 p1) p2)), (.int (v0_39 p0 p1 p2 p3 p4 p5)), (.int (f1 (f1 p0 p1) p2)), (.int (p5 &&& (3 : Int32))), (.int (v0_82 p0 p1 p2 p3 p4 p5))])) t
        exact k
      obtain ⟨_, _, ⟨T46, L46, k46, n46⟩, -, X46, ⟨Lc46, hQ46, l46, y46, z46⟩, st46⟩ := Jvm.LawKit.callS X24 hx (y := (⟨"com/example/nuthatch/nuthatch/logic/DemandsWithinPinLaw", "member", "(IIIII)Z"⟩ : MethodName)) hown (mvT hZ (hw _ (List.mem_of_getElem? (i := 16) rfl))) (mvT hZ (hw _ (List.mem_of_getElem? (i := 17) rfl))) (mvT hZ (hw _ (List.mem_of_getElem? (i := 9) rfl))) (mvT hZ (hw _ (List.mem_of_getElem? (i := 18) rfl))) (by decide) (backOf (W := 0) (rm5 l Z aZ hw [] (v0_82 p0 p1 p2 p3 p4 p5) (p5 &&& (3 : Int32)) (f1 (f1 p0 p1) p2) (v0_39 p0 p1 p2 p3 p4 p5) (f2 (f2 p0 p1) p2) h24 n0 Z24 ) hZ (hw _ (List.mem_of_getElem? (i := 18) rfl)) (hw _ (List.mem_of_getElem? (i := 9) rfl)) (by decide) (by decide)) (g := (mkF m 214 (la0_22 p0 p1 p2 p3 p4 p5 b0_113 b0_154) [(.int (f2 (f2 p0 p1) p2)), (.int (v0_39 p0 p1 p2 p3 p4 p5)), (.int (f1 (f1 p0 p1) p2)), (.int (p5 &&& (3 : Int32))), (.int (v0_82 p0 p1 p2 p3 p4 p5))])) rfl (by rw [hml]; rfl) (argsL := [(.int (v0_82 p0 p1 p2 p3 p4 p5)), (.int (p5 &&& (3 : Int32))), (.int (f1 (f1 p0 p1) p2)), (.int (v0_39 p0 p1 p2 p3 p4 p5)), (.int (f2 (f2 p0 p1) p2))]) (rest := []) (lenOf pd__IIIII_Z rfl) rfl (by show 2 * 0 + _ ≤ _; exact Nat.le_of_eq rfl) (hb hby at_214) (fun _ _ => ⟨rfl, e24, (by decide : 2 + 0 ≤ _), (by decide : 5 + 0 ≤ _)⟩)
      dsimp only [Pt.U, Pt.locs, Pt.cells, Pt.slots] at X46 l46 y46 z46 st46 hQ46
      subst l46 y46 z46
      obtain ⟨rfl, N46q, e46⟩ := hQ46
      have N46 := Fr.app N24 N46q
      refine ORch.go (g' := (mkF m 217 (la0_22 p0 p1 p2 p3 p4 p5 b0_113 b0_154) [(.int (f5 (v0_82 p0 p1 p2 p3 p4 p5) (p5 &&& (3 : Int32)) (f1 (f1 p0 p1) p2) (v0_39 p0 p1 p2 p3 p4 p5) (f2 (f2 p0 p1) p2)))])) st46 ?_
      by_cases hc47 : (f5 (v0_82 p0 p1 p2 p3 p4 p5) (p5 &&& (3 : Int32)) (f1 (f1 p0 p1) p2) (v0_39 p0 p1 p2 p3 p4 p5) (f2 (f2 p0 p1) p2)) = (0 : Int32)
      · skip
        refine ORch.go (T' := T46) (g' := (mkF m 246 (la0_22 p0 p1 p2 p3 p4 p5 b0_113 b0_154) [])) (fun t k => ?_) ?_
        · show Steps p.tables e below (T46.setTop (mkF m 217 (la0_22 p0 p1 p2 p3 p4 p5 b0_113 b0_154) [(.int (f5 (v0_82 p0 p1 p2 p3 p4 p5) (p5 &&& (3 : Int32)) (f1 (f1 p0 p1) p2) (v0_39 p0 p1 p2 p3 p4 p5) (f2 (f2 p0 p1) p2)))])) t
          refine XS.ifYes X46.here hx rfl (pc0 := 217) (pc' := 246) rfl (hb hby at_217) rfl ((if0 _ _).trans (teq (hc47)).1) (by decide) (by decide) ?_
          show Steps p.tables e below (T46.setTop (mkF m 246 (la0_22 p0 p1 p2 p3 p4 p5 b0_113 b0_154) [])) t
          exact k
        refine ORch.go (T' := T46) (g' := (mkF m 247 (la0_22 p0 p1 p2 p3 p4 p5 b0_113 b0_154) [(.int (0 : Int32))])) (fun t k => ?_) ?_
        · show Steps p.tables e below (T46.setTop (mkF m 246 (la0_22 p0 p1 p2 p3 p4 p5 b0_113 b0_154) [])) t
          refine XS.iconst X46.here hx rfl (hb hby at_246) ?_
          show Steps p.tables e below (T46.setTop (mkF m 247 (la0_22 p0 p1 p2 p3 p4 p5 b0_113 b0_154) [(.int (0 : Int32))])) t
          exact k
        exact ⟨_, _, X46, e46, N46, fun t k => (own_k (f := fun (z : Int32) => mkF m 247 #[.val (.int p0), .val (.int p1), .val (.int p2), .val (.int p3), .val (.int p4), .val (.int p5), .val (.int (f1 (f1 p0 p1) p2)), .val (.int (f2 (f2 p0 p1) p2)), .val (.int (v0_39 p0 p1 p2 p3 p4 p5)), .val (.int (p5 &&& (3 : Int32))), .val (.int (v0_57 p0 p1 p2 p3 p4 p5)), .val (.int (v0_82 p0 p1 p2 p3 p4 p5)), .val (.int (v0_109 p0 p1 p2 p3 p4 p5)), .val (.ref b0_113), .val (.ref b0_154), .unset] [(.int z)]) ((if_neg hc41).trans (if_pos hc47)) k)⟩
      · skip
        refine ORch.go (T' := T46) (g' := (mkF m 220 (la0_22 p0 p1 p2 p3 p4 p5 b0_113 b0_154) [])) (fun t k => ?_) ?_
        · show Steps p.tables e below (T46.setTop (mkF m 217 (la0_22 p0 p1 p2 p3 p4 p5 b0_113 b0_154) [(.int (f5 (v0_82 p0 p1 p2 p3 p4 p5) (p5 &&& (3 : Int32)) (f1 (f1 p0 p1) p2) (v0_39 p0 p1 p2 p3 p4 p5) (f2 (f2 p0 p1) p2)))])) t
          refine XS.ifNo X46.here hx rfl (hb hby at_217) rfl ((if0 _ _).trans (feq (hc47)).1) ?_
          show Steps p.tables e below (T46.setTop (mkF m 220 (la0_22 p0 p1 p2 p3 p4 p5 b0_113 b0_154) [])) t
          exact k
        refine ORch.go (T' := T46) (g' := (mkF m 223 (la0_22 p0 p1 p2 p3 p4 p5 b0_113 b0_154) [(.int (2 : Int32)), (.int (v0_57 p0 p1 p2 p3 p4 p5))])) (fun t k => ?_) ?_
        · show Steps p.tables e below (T46.setTop (mkF m 220 (la0_22 p0 p1 p2 p3 p4 p5 b0_113 b0_154) [])) t
          refine XS.iload X46.here hx rfl (hb hby at_220) rfl ?_
          show Steps p.tables e below (T46.setTop (mkF m 222 (la0_22 p0 p1 p2 p3 p4 p5 b0_113 b0_154) [(.int (v0_57 p0 p1 p2 p3 p4 p5))])) t
          refine XS.iconst X46.here hx rfl (hb hby at_222) ?_
          show Steps p.tables e below (T46.setTop (mkF m 223 (la0_22 p0 p1 p2 p3 p4 p5 b0_113 b0_154) [(.int (2 : Int32)), (.int (v0_57 p0 p1 p2 p3 p4 p5))])) t
          exact k
        by_cases hc48 : (v0_57 p0 p1 p2 p3 p4 p5) < (2 : Int32)
        · skip
          refine ORch.go (T' := T46) (g' := (mkF m 242 (la0_22 p0 p1 p2 p3 p4 p5 b0_113 b0_154) [])) (fun t k => ?_) ?_
          · show Steps p.tables e below (T46.setTop (mkF m 223 (la0_22 p0 p1 p2 p3 p4 p5 b0_113 b0_154) [(.int (2 : Int32)), (.int (v0_57 p0 p1 p2 p3 p4 p5))])) t
            refine XS.icmpYes X46.here hx rfl (pc0 := 223) (pc' := 242) rfl (hb hby at_223) rfl (tlt (hc48)).1 (by decide) (by decide) ?_
            show Steps p.tables e below (T46.setTop (mkF m 242 (la0_22 p0 p1 p2 p3 p4 p5 b0_113 b0_154) [])) t
            exact k
          refine ORch.go (T' := T46) (g' := (mkF m 247 (la0_22 p0 p1 p2 p3 p4 p5 b0_113 b0_154) [(.int (1 : Int32))])) (fun t k => ?_) ?_
          · show Steps p.tables e below (T46.setTop (mkF m 242 (la0_22 p0 p1 p2 p3 p4 p5 b0_113 b0_154) [])) t
            refine XS.iconst X46.here hx rfl (hb hby at_242) ?_
            show Steps p.tables e below (T46.setTop (mkF m 243 (la0_22 p0 p1 p2 p3 p4 p5 b0_113 b0_154) [(.int (1 : Int32))])) t
            refine XS.goto X46.here hx rfl (pc0 := 243) (pc' := 247) rfl (hb hby at_243) (by decide) (by decide) ?_
            show Steps p.tables e below (T46.setTop (mkF m 247 (la0_22 p0 p1 p2 p3 p4 p5 b0_113 b0_154) [(.int (1 : Int32))])) t
            exact k
          exact ⟨_, _, X46, e46, N46, fun t k => (own_k (f := fun (z : Int32) => mkF m 247 #[.val (.int p0), .val (.int p1), .val (.int p2), .val (.int p3), .val (.int p4), .val (.int p5), .val (.int (f1 (f1 p0 p1) p2)), .val (.int (f2 (f2 p0 p1) p2)), .val (.int (v0_39 p0 p1 p2 p3 p4 p5)), .val (.int (p5 &&& (3 : Int32))), .val (.int (v0_57 p0 p1 p2 p3 p4 p5)), .val (.int (v0_82 p0 p1 p2 p3 p4 p5)), .val (.int (v0_109 p0 p1 p2 p3 p4 p5)), .val (.ref b0_113), .val (.ref b0_154), .unset] [(.int z)]) ((if_neg hc41).trans ((if_neg hc47).trans (if_pos hc48))) k)⟩
        · skip
          refine ORch.go (T' := T46) (g' := (mkF m 226 (la0_22 p0 p1 p2 p3 p4 p5 b0_113 b0_154) [])) (fun t k => ?_) ?_
          · show Steps p.tables e below (T46.setTop (mkF m 223 (la0_22 p0 p1 p2 p3 p4 p5 b0_113 b0_154) [(.int (2 : Int32)), (.int (v0_57 p0 p1 p2 p3 p4 p5))])) t
            refine XS.icmpNo X46.here hx rfl (hb hby at_223) rfl (flt (hc48)).1 ?_
            show Steps p.tables e below (T46.setTop (mkF m 226 (la0_22 p0 p1 p2 p3 p4 p5 b0_113 b0_154) [])) t
            exact k
          refine ORch.go (T' := T46) (g' := (mkF m 236 (la0_22 p0 p1 p2 p3 p4 p5 b0_113 b0_154) [(.int (f2 (f2 p0 p1) p2)), (.int (v0_39 p0 p1 p2 p3 p4 p5)), (.int (f1 (f1 p0 p1) p2)), (.int (p5 &&& (3 : Int32))), (.int (v0_109 p0 p1 p2 p3 p4 p5))])) (fun t k => ?_) ?_
          · show Steps p.tables e below (T46.setTop (mkF m 226 (la0_22 p0 p1 p2 p3 p4 p5 b0_113 b0_154) [])) t
            refine XS.iload X46.here hx rfl (hb hby at_226) rfl ?_
            show Steps p.tables e below (T46.setTop (mkF m 228 (la0_22 p0 p1 p2 p3 p4 p5 b0_113 b0_154) [(.int (v0_109 p0 p1 p2 p3 p4 p5))])) t
            refine XS.iload X46.here hx rfl (hb hby at_228) rfl ?_
            show Steps p.tables e below (T46.setTop (mkF m 230 (la0_22 p0 p1 p2 p3 p4 p5 b0_113 b0_154) [(.int (p5 &&& (3 : Int32))), (.int (v0_109 p0 p1 p2 p3 p4 p5))])) t
            refine XS.iload X46.here hx rfl (hb hby at_230) rfl ?_
            show Steps p.tables e below (T46.setTop (mkF m 232 (la0_22 p0 p1 p2 p3 p4 p5 b0_113 b0_154) [(.int (f1 (f1 p0 p1) p2)), (.int (p5 &&& (3 : Int32))), (.int (v0_109 p0 p1 p2 p3 p4 p5))])) t
            refine XS.iload X46.here hx rfl (hb hby at_232) rfl ?_
            show Steps p.tables e below (T46.setTop (mkF m 234 (la0_22 p0 p1 p2 p3 p4 p5 b0_113 b0_154) [(.int (v0_39 p0 p1 p2 p3 p4 p5)), (.int (f1 (f1 p0 p1) p2)), (.int (p5 &&& (3 : Int32))), (.int (v0_109 p0 p1 p2 p3 p4 p5))])) t
            refine XS.iload X46.here hx rfl (hb hby at_234) rfl ?_
            show Steps p.tables e below (T46.setTop (mkF m 236 (la0_22 p0 p1 p2 p3 p4 p5 b0_113 b0_154) [(.int (f2 (f2 p0 p1) p2)), (.int (v0_39 p0 p1 p2 p3 p4 p5)), (.int (f1 (f1 p0 p1) p2)), (.int (p5 &&& (3 : Int32))), (.int (v0_109 p0 p1 p2 p3 p4 p5))])) t
            exact k
          obtain ⟨_, _, ⟨T49, L49, k49, n49⟩, -, X49, ⟨Lc49, hQ49, l49, y49, z49⟩, st49⟩ := Jvm.LawKit.callS X46 hx (y := (⟨"com/example/nuthatch/nuthatch/logic/DemandsWithinPinLaw", "member", "(IIIII)Z"⟩ : MethodName)) hown (mvT hZ (hw _ (List.mem_of_getElem? (i := 16) rfl))) (mvT hZ (hw _ (List.mem_of_getElem? (i := 17) rfl))) (mvT hZ (hw _ (List.mem_of_getElem? (i := 9) rfl))) (mvT hZ (hw _ (List.mem_of_getElem? (i := 18) rfl))) (by decide) (backOf (W := 0) (rm5 l Z aZ hw [] (v0_109 p0 p1 p2 p3 p4 p5) (p5 &&& (3 : Int32)) (f1 (f1 p0 p1) p2) (v0_39 p0 p1 p2 p3 p4 p5) (f2 (f2 p0 p1) p2) h24 n0 Z24 ) hZ (hw _ (List.mem_of_getElem? (i := 18) rfl)) (hw _ (List.mem_of_getElem? (i := 9) rfl)) (by decide) (by decide)) (g := (mkF m 236 (la0_22 p0 p1 p2 p3 p4 p5 b0_113 b0_154) [(.int (f2 (f2 p0 p1) p2)), (.int (v0_39 p0 p1 p2 p3 p4 p5)), (.int (f1 (f1 p0 p1) p2)), (.int (p5 &&& (3 : Int32))), (.int (v0_109 p0 p1 p2 p3 p4 p5))])) rfl (by rw [hml]; rfl) (argsL := [(.int (v0_109 p0 p1 p2 p3 p4 p5)), (.int (p5 &&& (3 : Int32))), (.int (f1 (f1 p0 p1) p2)), (.int (v0_39 p0 p1 p2 p3 p4 p5)), (.int (f2 (f2 p0 p1) p2))]) (rest := []) (lenOf pd__IIIII_Z rfl) rfl (by show 2 * 0 + _ ≤ _; exact Nat.le_of_eq rfl) (hb hby at_236) (fun _ _ => ⟨rfl, e46, (by decide : 2 + 0 ≤ _), (by decide : 5 + 0 ≤ _)⟩)
          dsimp only [Pt.U, Pt.locs, Pt.cells, Pt.slots] at X49 l49 y49 z49 st49 hQ49
          subst l49 y49 z49
          obtain ⟨rfl, N49q, e49⟩ := hQ49
          have N49 := Fr.app N46 N49q
          refine ORch.go (g' := (mkF m 239 (la0_22 p0 p1 p2 p3 p4 p5 b0_113 b0_154) [(.int (f5 (v0_109 p0 p1 p2 p3 p4 p5) (p5 &&& (3 : Int32)) (f1 (f1 p0 p1) p2) (v0_39 p0 p1 p2 p3 p4 p5) (f2 (f2 p0 p1) p2)))])) st49 ?_
          by_cases hc50 : (f5 (v0_109 p0 p1 p2 p3 p4 p5) (p5 &&& (3 : Int32)) (f1 (f1 p0 p1) p2) (v0_39 p0 p1 p2 p3 p4 p5) (f2 (f2 p0 p1) p2)) = (0 : Int32)
          · skip
            refine ORch.go (T' := T49) (g' := (mkF m 246 (la0_22 p0 p1 p2 p3 p4 p5 b0_113 b0_154) [])) (fun t k => ?_) ?_
            · show Steps p.tables e below (T49.setTop (mkF m 239 (la0_22 p0 p1 p2 p3 p4 p5 b0_113 b0_154) [(.int (f5 (v0_109 p0 p1 p2 p3 p4 p5) (p5 &&& (3 : Int32)) (f1 (f1 p0 p1) p2) (v0_39 p0 p1 p2 p3 p4 p5) (f2 (f2 p0 p1) p2)))])) t
              refine XS.ifYes X49.here hx rfl (pc0 := 239) (pc' := 246) rfl (hb hby at_239) rfl ((if0 _ _).trans (teq (hc50)).1) (by decide) (by decide) ?_
              show Steps p.tables e below (T49.setTop (mkF m 246 (la0_22 p0 p1 p2 p3 p4 p5 b0_113 b0_154) [])) t
              exact k
            refine ORch.go (T' := T49) (g' := (mkF m 247 (la0_22 p0 p1 p2 p3 p4 p5 b0_113 b0_154) [(.int (0 : Int32))])) (fun t k => ?_) ?_
            · show Steps p.tables e below (T49.setTop (mkF m 246 (la0_22 p0 p1 p2 p3 p4 p5 b0_113 b0_154) [])) t
              refine XS.iconst X49.here hx rfl (hb hby at_246) ?_
              show Steps p.tables e below (T49.setTop (mkF m 247 (la0_22 p0 p1 p2 p3 p4 p5 b0_113 b0_154) [(.int (0 : Int32))])) t
              exact k
            exact ⟨_, _, X49, e49, N49, fun t k => (own_k (f := fun (z : Int32) => mkF m 247 #[.val (.int p0), .val (.int p1), .val (.int p2), .val (.int p3), .val (.int p4), .val (.int p5), .val (.int (f1 (f1 p0 p1) p2)), .val (.int (f2 (f2 p0 p1) p2)), .val (.int (v0_39 p0 p1 p2 p3 p4 p5)), .val (.int (p5 &&& (3 : Int32))), .val (.int (v0_57 p0 p1 p2 p3 p4 p5)), .val (.int (v0_82 p0 p1 p2 p3 p4 p5)), .val (.int (v0_109 p0 p1 p2 p3 p4 p5)), .val (.ref b0_113), .val (.ref b0_154), .unset] [(.int z)]) ((if_neg hc41).trans ((if_neg hc47).trans ((if_neg hc48).trans (if_pos hc50)))) k)⟩
          · skip
            refine ORch.go (T' := T49) (g' := (mkF m 242 (la0_22 p0 p1 p2 p3 p4 p5 b0_113 b0_154) [])) (fun t k => ?_) ?_
            · show Steps p.tables e below (T49.setTop (mkF m 239 (la0_22 p0 p1 p2 p3 p4 p5 b0_113 b0_154) [(.int (f5 (v0_109 p0 p1 p2 p3 p4 p5) (p5 &&& (3 : Int32)) (f1 (f1 p0 p1) p2) (v0_39 p0 p1 p2 p3 p4 p5) (f2 (f2 p0 p1) p2)))])) t
              refine XS.ifNo X49.here hx rfl (hb hby at_239) rfl ((if0 _ _).trans (feq (hc50)).1) ?_
              show Steps p.tables e below (T49.setTop (mkF m 242 (la0_22 p0 p1 p2 p3 p4 p5 b0_113 b0_154) [])) t
              exact k
            refine ORch.go (T' := T49) (g' := (mkF m 247 (la0_22 p0 p1 p2 p3 p4 p5 b0_113 b0_154) [(.int (1 : Int32))])) (fun t k => ?_) ?_
            · show Steps p.tables e below (T49.setTop (mkF m 242 (la0_22 p0 p1 p2 p3 p4 p5 b0_113 b0_154) [])) t
              refine XS.iconst X49.here hx rfl (hb hby at_242) ?_
              show Steps p.tables e below (T49.setTop (mkF m 243 (la0_22 p0 p1 p2 p3 p4 p5 b0_113 b0_154) [(.int (1 : Int32))])) t
              refine XS.goto X49.here hx rfl (pc0 := 243) (pc' := 247) rfl (hb hby at_243) (by decide) (by decide) ?_
              show Steps p.tables e below (T49.setTop (mkF m 247 (la0_22 p0 p1 p2 p3 p4 p5 b0_113 b0_154) [(.int (1 : Int32))])) t
              exact k
            exact ⟨_, _, X49, e49, N49, fun t k => (own_k (f := fun (z : Int32) => mkF m 247 #[.val (.int p0), .val (.int p1), .val (.int p2), .val (.int p3), .val (.int p4), .val (.int p5), .val (.int (f1 (f1 p0 p1) p2)), .val (.int (f2 (f2 p0 p1) p2)), .val (.int (v0_39 p0 p1 p2 p3 p4 p5)), .val (.int (p5 &&& (3 : Int32))), .val (.int (v0_57 p0 p1 p2 p3 p4 p5)), .val (.int (v0_82 p0 p1 p2 p3 p4 p5)), .val (.int (v0_109 p0 p1 p2 p3 p4 p5)), .val (.ref b0_113), .val (.ref b0_154), .unset] [(.int z)]) ((if_neg hc41).trans ((if_neg hc47).trans ((if_neg hc48).trans (if_neg hc50)))) k)⟩
  refine OEnd.go (g' := (mkF m 247 (la0_22 p0 p1 p2 p3 p4 p5 b0_113 b0_154) [(.int (if (v0_57 p0 p1 p2 p3 p4 p5) < (1 : Int32) then (if (v0_57 p0 p1 p2 p3 p4 p5) < (2 : Int32) then (1 : Int32) else (if (f5 (v0_109 p0 p1 p2 p3 p4 p5) (p5 &&& (3 : Int32)) (f1 (f1 p0 p1) p2) (v0_39 p0 p1 p2 p3 p4 p5) (f2 (f2 p0 p1) p2)) = (0 : Int32) then (0 : Int32) else (1 : Int32))) else (if (f5 (v0_82 p0 p1 p2 p3 p4 p5) (p5 &&& (3 : Int32)) (f1 (f1 p0 p1) p2) (v0_39 p0 p1 p2 p3 p4 p5) (f2 (f2 p0 p1) p2)) = (0 : Int32) then (0 : Int32) else (if (v0_57 p0 p1 p2 p3 p4 p5) < (2 : Int32) then (1 : Int32) else (if (f5 (v0_109 p0 p1 p2 p3 p4 p5) (p5 &&& (3 : Int32)) (f1 (f1 p0 p1) p2) (v0_39 p0 p1 p2 p3 p4 p5) (f2 (f2 p0 p1) p2)) = (0 : Int32) then (0 : Int32) else (1 : Int32))))))])) st42 ?_
  refine OEnd.go (T' := T42) (g' := (mkF m 253 (la0_23 p0 p1 p2 p3 p4 p5 b0_113 b0_154) [(.ref b0_113), (.ref b0_154)])) (fun t k => ?_) ?_
  · show Steps p.tables e below (T42.setTop (mkF m 247 (la0_22 p0 p1 p2 p3 p4 p5 b0_113 b0_154) [(.int (if (v0_57 p0 p1 p2 p3 p4 p5) < (1 : Int32) then (if (v0_57 p0 p1 p2 p3 p4 p5) < (2 : Int32) then (1 : Int32) else (if (f5 (v0_109 p0 p1 p2 p3 p4 p5) (p5 &&& (3 : Int32)) (f1 (f1 p0 p1) p2) (v0_39 p0 p1 p2 p3 p4 p5) (f2 (f2 p0 p1) p2)) = (0 : Int32) then (0 : Int32) else (1 : Int32))) else (if (f5 (v0_82 p0 p1 p2 p3 p4 p5) (p5 &&& (3 : Int32)) (f1 (f1 p0 p1) p2) (v0_39 p0 p1 p2 p3 p4 p5) (f2 (f2 p0 p1) p2)) = (0 : Int32) then (0 : Int32) else (if (v0_57 p0 p1 p2 p3 p4 p5) < (2 : Int32) then (1 : Int32) else (if (f5 (v0_109 p0 p1 p2 p3 p4 p5) (p5 &&& (3 : Int32)) (f1 (f1 p0 p1) p2) (v0_39 p0 p1 p2 p3 p4 p5) (f2 (f2 p0 p1) p2)) = (0 : Int32) then (0 : Int32) else (1 : Int32))))))])) t
    refine XS.istore X42.here hx rfl (hb hby at_247) rfl (l' := (la0_23 p0 p1 p2 p3 p4 p5 b0_113 b0_154)) rfl ?_
    show Steps p.tables e below (T42.setTop (mkF m 249 (la0_23 p0 p1 p2 p3 p4 p5 b0_113 b0_154) [])) t
    refine XS.aload X42.here hx rfl (hb hby at_249) rfl rfl ?_
    show Steps p.tables e below (T42.setTop (mkF m 251 (la0_23 p0 p1 p2 p3 p4 p5 b0_113 b0_154) [(.ref b0_154)])) t
    refine XS.aload X42.here hx rfl (hb hby at_251) rfl rfl ?_
    show Steps p.tables e below (T42.setTop (mkF m 253 (la0_23 p0 p1 p2 p3 p4 p5 b0_113 b0_154) [(.ref b0_113), (.ref b0_154)])) t
    exact k
  obtain ⟨_, _, ⟨T51, L51, k51, n51⟩, -, X51, ⟨Lc51, hQ51, l51, y51, z51⟩, st51⟩ := Jvm.LawKit.callS X42 hx (y := (⟨"com/example/nuthatch/nuthatch/logic/Demands", "within", "([I[I)Z"⟩ : MethodName)) hown (mvT hZ (hw _ (List.mem_of_getElem? (i := 12) rfl))) (mvT hZ (hw _ (List.mem_of_getElem? (i := 13) rfl))) (mvT hZ (hw _ (List.mem_of_getElem? (i := 14) rfl))) (mvT hZ (hw _ (List.mem_of_getElem? (i := 15) rfl))) (by decide) (backOf (W := 0) (rm4 l Z aZ hw [] b0_154 b0_113 (own_s2 (v0_57 p0 p1 p2 p3 p4 p5) (v0_82 p0 p1 p2 p3 p4 p5) (v0_109 p0 p1 p2 p3 p4 p5)) (own_t3 (p5 &&& (3 : Int32)) (f1 (f1 p0 p1) p2) (v0_39 p0 p1 p2 p3 p4 p5) (f2 (f2 p0 p1) p2)) (v0_57 p0 p1 p2 p3 p4 p5) (p5 &&& (3 : Int32)) h24 n0 Z24 u24_3 fc40 (own_len2 _ _ (own_ns p0 p1 p2 p3 p4 p5)) (own_len3 _ _ _ (own_four p5)) (own_lt2 _ _ (own_ns p0 p1 p2 p3 p4 p5)) (own_lt3 _ _ _ (own_four p5))) hZ (hw _ (List.mem_of_getElem? (i := 15) rfl)) (hw _ (List.mem_of_getElem? (i := 14) rfl)) (by decide) (by decide)) (g := (mkF m 253 (la0_23 p0 p1 p2 p3 p4 p5 b0_113 b0_154) [(.ref b0_113), (.ref b0_154)])) rfl (by rw [hml]; rfl) (argsL := [(.ref b0_154), (.ref b0_113)]) (rest := []) (lenOf pd___I_I_Z rfl) rfl (by show 2 * 0 + _ ≤ _; exact Nat.le_of_eq rfl) (hb hby at_253) (fun _ _ => ⟨rfl, e42, (by decide : 2 + 0 ≤ _), (by decide : 5 + 0 ≤ _)⟩)
  dsimp only [Pt.U, Pt.locs, Pt.cells, Pt.slots] at X51 l51 y51 z51 st51 hQ51
  subst l51 y51 z51
  obtain ⟨rfl, N51q, e51⟩ := hQ51
  have N51 := Fr.app N42 N51q
  refine OEnd.go (g' := (mkF m 256 (la0_23 p0 p1 p2 p3 p4 p5 b0_113 b0_154) [(.int (nar .boolean (wi (own_s2 (v0_57 p0 p1 p2 p3 p4 p5) (v0_82 p0 p1 p2 p3 p4 p5) (v0_109 p0 p1 p2 p3 p4 p5)) (own_t3 (p5 &&& (3 : Int32)) (f1 (f1 p0 p1) p2) (v0_39 p0 p1 p2 p3 p4 p5) (f2 (f2 p0 p1) p2)))))])) st51 ?_
  refine OEnd.go (T' := T51) (g' := (mkF m 258 (la0_23 p0 p1 p2 p3 p4 p5 b0_113 b0_154) [(.int (v0_247 p0 p1 p2 p3 p4 p5)), (.int (nar .boolean (wi (own_s2 (v0_57 p0 p1 p2 p3 p4 p5) (v0_82 p0 p1 p2 p3 p4 p5) (v0_109 p0 p1 p2 p3 p4 p5)) (own_t3 (p5 &&& (3 : Int32)) (f1 (f1 p0 p1) p2) (v0_39 p0 p1 p2 p3 p4 p5) (f2 (f2 p0 p1) p2)))))])) (fun t k => ?_) ?_
  · show Steps p.tables e below (T51.setTop (mkF m 256 (la0_23 p0 p1 p2 p3 p4 p5 b0_113 b0_154) [(.int (nar .boolean (wi (own_s2 (v0_57 p0 p1 p2 p3 p4 p5) (v0_82 p0 p1 p2 p3 p4 p5) (v0_109 p0 p1 p2 p3 p4 p5)) (own_t3 (p5 &&& (3 : Int32)) (f1 (f1 p0 p1) p2) (v0_39 p0 p1 p2 p3 p4 p5) (f2 (f2 p0 p1) p2)))))])) t
    refine XS.iload X51.here hx rfl (hb hby at_256) rfl ?_
    show Steps p.tables e below (T51.setTop (mkF m 258 (la0_23 p0 p1 p2 p3 p4 p5 b0_113 b0_154) [(.int (v0_247 p0 p1 p2 p3 p4 p5)), (.int (nar .boolean (wi (own_s2 (v0_57 p0 p1 p2 p3 p4 p5) (v0_82 p0 p1 p2 p3 p4 p5) (v0_109 p0 p1 p2 p3 p4 p5)) (own_t3 (p5 &&& (3 : Int32)) (f1 (f1 p0 p1) p2) (v0_39 p0 p1 p2 p3 p4 p5) (f2 (f2 p0 p1) p2)))))])) t
    exact k
  refine OEnd.go (T' := T51) (g' := (mkF m 266 (la0_23 p0 p1 p2 p3 p4 p5 b0_113 b0_154) [(.int (if (nar .boolean (wi (own_s2 (v0_57 p0 p1 p2 p3 p4 p5) (v0_82 p0 p1 p2 p3 p4 p5) (v0_109 p0 p1 p2 p3 p4 p5)) (own_t3 (p5 &&& (3 : Int32)) (f1 (f1 p0 p1) p2) (v0_39 p0 p1 p2 p3 p4 p5) (f2 (f2 p0 p1) p2)))) = (v0_247 p0 p1 p2 p3 p4 p5) then (1 : Int32) else (0 : Int32)))])) (fun t k => ?_) ?_
  · show Steps p.tables e below (T51.setTop (mkF m 258 (la0_23 p0 p1 p2 p3 p4 p5 b0_113 b0_154) [(.int (v0_247 p0 p1 p2 p3 p4 p5)), (.int (nar .boolean (wi (own_s2 (v0_57 p0 p1 p2 p3 p4 p5) (v0_82 p0 p1 p2 p3 p4 p5) (v0_109 p0 p1 p2 p3 p4 p5)) (own_t3 (p5 &&& (3 : Int32)) (f1 (f1 p0 p1) p2) (v0_39 p0 p1 p2 p3 p4 p5) (f2 (f2 p0 p1) p2)))))])) t
    by_cases hc52 : (nar .boolean (wi (own_s2 (v0_57 p0 p1 p2 p3 p4 p5) (v0_82 p0 p1 p2 p3 p4 p5) (v0_109 p0 p1 p2 p3 p4 p5)) (own_t3 (p5 &&& (3 : Int32)) (f1 (f1 p0 p1) p2) (v0_39 p0 p1 p2 p3 p4 p5) (f2 (f2 p0 p1) p2)))) = (v0_247 p0 p1 p2 p3 p4 p5)
    · skip
      refine XS.icmpNo X51.here hx rfl (hb hby at_258) rfl (teq (hc52)).2 ?_
      show Steps p.tables e below (T51.setTop (mkF m 261 (la0_23 p0 p1 p2 p3 p4 p5 b0_113 b0_154) [])) t
      refine SGo.go (T' := T51) (g' := (mkF m 266 (la0_23 p0 p1 p2 p3 p4 p5 b0_113 b0_154) [(.int (1 : Int32))])) (fun t k => ?_) ?_
      · show Steps p.tables e below (T51.setTop (mkF m 261 (la0_23 p0 p1 p2 p3 p4 p5 b0_113 b0_154) [])) t
        refine XS.iconst X51.here hx rfl (hb hby at_261) ?_
        show Steps p.tables e below (T51.setTop (mkF m 262 (la0_23 p0 p1 p2 p3 p4 p5 b0_113 b0_154) [(.int (1 : Int32))])) t
        refine XS.goto X51.here hx rfl (pc0 := 262) (pc' := 266) rfl (hb hby at_262) (by decide) (by decide) ?_
        show Steps p.tables e below (T51.setTop (mkF m 266 (la0_23 p0 p1 p2 p3 p4 p5 b0_113 b0_154) [(.int (1 : Int32))])) t
        exact k
      exact (own_k (f := fun (z : Int32) => mkF m 266 #[.val (.int p0), .val (.int p1), .val (.int p2), .val (.int p3), .val (.int p4), .val (.int p5), .val (.int (f1 (f1 p0 p1) p2)), .val (.int (f2 (f2 p0 p1) p2)), .val (.int (v0_39 p0 p1 p2 p3 p4 p5)), .val (.int (p5 &&& (3 : Int32))), .val (.int (v0_57 p0 p1 p2 p3 p4 p5)), .val (.int (v0_82 p0 p1 p2 p3 p4 p5)), .val (.int (v0_109 p0 p1 p2 p3 p4 p5)), .val (.ref b0_113), .val (.ref b0_154), .val (.int (v0_247 p0 p1 p2 p3 p4 p5))] [(.int z)]) (if_pos hc52) k)
    · skip
      refine XS.icmpYes X51.here hx rfl (pc0 := 258) (pc' := 265) rfl (hb hby at_258) rfl (feq (hc52)).2 (by decide) (by decide) ?_
      show Steps p.tables e below (T51.setTop (mkF m 265 (la0_23 p0 p1 p2 p3 p4 p5 b0_113 b0_154) [])) t
      refine SGo.go (T' := T51) (g' := (mkF m 266 (la0_23 p0 p1 p2 p3 p4 p5 b0_113 b0_154) [(.int (0 : Int32))])) (fun t k => ?_) ?_
      · show Steps p.tables e below (T51.setTop (mkF m 265 (la0_23 p0 p1 p2 p3 p4 p5 b0_113 b0_154) [])) t
        refine XS.iconst X51.here hx rfl (hb hby at_265) ?_
        show Steps p.tables e below (T51.setTop (mkF m 266 (la0_23 p0 p1 p2 p3 p4 p5 b0_113 b0_154) [(.int (0 : Int32))])) t
        exact k
      exact (own_k (f := fun (z : Int32) => mkF m 266 #[.val (.int p0), .val (.int p1), .val (.int p2), .val (.int p3), .val (.int p4), .val (.int p5), .val (.int (f1 (f1 p0 p1) p2)), .val (.int (f2 (f2 p0 p1) p2)), .val (.int (v0_39 p0 p1 p2 p3 p4 p5)), .val (.int (p5 &&& (3 : Int32))), .val (.int (v0_57 p0 p1 p2 p3 p4 p5)), .val (.int (v0_82 p0 p1 p2 p3 p4 p5)), .val (.int (v0_109 p0 p1 p2 p3 p4 p5)), .val (.ref b0_113), .val (.ref b0_154), .val (.int (v0_247 p0 p1 p2 p3 p4 p5))] [(.int z)]) (if_neg hc52) k)
  exact OEnd.nar X51 hx (t := .boolean) Bd.returns (by simp) hlk (hb hby at_266) ⟨(congrArg (fun z => some (Value.int (nar .boolean z))) (own_plain p0 p1 p2 p3 p4 p5)), N51⟩ (by decide) (by decide)
set_option maxRecDepth 65536 in
set_option maxHeartbeats 40000000 in
theorem comes_1 {Post : Tables → Env → Array Value → State → Outcome → State → Prop} (hpost : ∀ tb e args s v u, (limb_1_1.after args s (.returned v) u = true ∧ limb_1_2.after args s (.returned v) u = true ∧ True) → FrameEnd s (.returned v) u (Jvm.fieldLocs frame_1_writes args s ++ Jvm.arrayLocs frame_1_arrays args s ++ Jvm.staticLocs frame_1_statics s) 16 128 → Post tb e args s (.returned v) u) :
    ArmFor flags0 classFile x code maxLocals ret World_1 tables_1 room_1 Calls_1 rest_1 Pre_1 Post := by
  intro l hfl _ _ p e ha hc hk s m args below hf hA hF happ hP
  obtain ⟨hcalls, hrest, hpre⟩ := hP
  obtain ⟨-, -, -, hnamed, -, -, -, hat⟩ := (Spec.applies_iff hf).mp happ
  obtain ⟨hg, hn⟩ := and_e (Cond.before_iff.mp (show (Jvm.Cond.and given_1 narrow_1).before args s = true from hpre))
  obtain ⟨c1, c2⟩ := and_e hg
  obtain ⟨c3, c4⟩ := and_e c2
  obtain ⟨c5, c6⟩ := and_e c4
  obtain ⟨c7, c8⟩ := and_e c6
  obtain ⟨c9, c10⟩ := and_e c8
  obtain ⟨c11, c12⟩ := and_e c10
  obtain ⟨w0, w1, w2, w3, w4, w5, rfl⟩ : ∃ w0 w1 w2 w3 w4 w5 : Value, args = #[w0, w1, w2, w3, w4, w5] := by
    have hs : args.size = 6 := by simpa [Cond.value, given_1] using c1
    obtain ⟨L⟩ := args
    match L, hs with
    | [w0, w1, w2, w3, w4, w5], _ => exact ⟨w0, w1, w2, w3, w4, w5, rfl⟩
  have hw := fun d (hd : d ∈ tables_1) => atoms_spec (ws := Jvm.Cond.code x code maxLocals ret :: tables_1) hat d (List.mem_cons_of_mem _ hd)
  obtain ⟨i0, ei0⟩ := is_v c3
  obtain rfl : w0 = (.int i0) := Option.some.inj ei0
  obtain ⟨i1, ei1⟩ := is_v c5
  obtain rfl : w1 = (.int i1) := Option.some.inj ei1
  obtain ⟨i2, ei2⟩ := is_v c7
  obtain rfl : w2 = (.int i2) := Option.some.inj ei2
  obtain ⟨i3, ei3⟩ := is_v c9
  obtain rfl : w3 = (.int i3) := Option.some.inj ei3
  obtain ⟨i4, ei4⟩ := is_v c11
  obtain rfl : w4 = (.int i4) := Option.some.inj ei4
  obtain ⟨i5, ei5⟩ := is_v c12
  obtain rfl : w5 = (.int i5) := Option.some.inj ei5
  obtain ⟨n, o, h1, h2, h3, _, L, rfl, ⟨rfl, N⟩, hq⟩ := rm0 l s _ hw tables_1 i0 i1 i2 i3 i4 i5 s.heap s.heap.size (Nat.le_refl _)  p e ha hc hk s m _ below hf ((Spec.applies_iff_loose hf).mp happ).1 ⟨rfl, State.Warmed39.refl s, rfl⟩ trivial
  refine ⟨n, _, h1, h2, h3, hpost _ _ _ _ _ _ ⟨Cond.after_iff.mpr rfl, Cond.after_iff.mpr (eq_i res_at (Term.int_eval (1)) rfl), trivial⟩ ⟨hq.1, hq.2.1, (hq.2.2.sift fun y hy => Or.inr (N y hy)).mono (by decide) (by decide)⟩⟩
theorem main_1_1 : Claimed_1_1 := comes_1 fun _ _ _ _ _ _ h hF => ⟨h.1, hF⟩
theorem main_1_2 : Claimed_1_2 := comes_1 fun _ _ _ _ _ _ h hF => ⟨h.2.1, hF⟩
end Jvm.Pilot.@@N@@
namespace Jvm.Pilot.@@N@@
open Jvm Jvm.ClassFile Sem Op Lib Jvm.Free Jvm.Stand Jvm.Pilot.@@N@@.Jvm.D
/-! MADE BY PROGRAM (witnessworld.py) out of the Statement's table words and the real class files: 10 classes; the members and pool entries that the words name. The judged class is class 1, her method 1. -/
namespace start1
open Jvm.ClassFile
def u (s : String) : CpInfo := .utf8 (stringToUtf16 s)
/-- a pool by its gaps: so many unusable entries, then the entry; so many at the end -/
def gap : Nat → List CpInfo → List CpInfo
  | 0, r => r
  | n + 1, r => .unusable :: gap n r
def poolList (es : List (Nat × CpInfo)) (last : Nat) : List CpInfo := es.foldr (fun e r => gap e.1 (e.2 :: r)) (gap last [])
def pool (es : List (Nat × CpInfo)) (last : Nat) : Array CpInfo := ⟨poolList es last⟩
def fileOf (pool : Array CpInfo) (this : Nat) (attrs : Array Attribute := #[]) (ms : Array MethodInfo := #[]) (fl : Nat := 33) (sup : Nat := 0) (ifs : Array Nat := #[]) (fds : Array FieldInfo := #[]) : ClassFile where
  minorVersion := 0
  majorVersion := 65
  constantPool := pool
  accessFlags := fl
  thisClass := this
  superClass := sup
  interfaces := ifs
  fields := fds
  methods := ms
  attributes := attrs
def plain (name : String) (sup : Option ClassId) : Class where
  name := name
  kind := .ordinary
  loader := none
  accessFlags := 33
  super := sup
  interfaces := #[]
  cf := none
  fields := #[]
  methods := #[]
  instanceTypes := #[]
  staticTypes := #[]
  resolved := #[]
  callSites := []
  init := .initialized
  statics := none
  mirror := none

def pool0 : Array CpInfo := pool [(5, u "<init>"), (0, u "()V"), (1, .class_ 10), (1, u "java/lang/Object")] 113

def k0m0 : Method := { name := "<init>", desc := "()V", sig := { parameters := [], returnType := none }, accessFlags := 1, code := none }
/-- java/lang/Object -/
def k0 : Class := { plain "java/lang/Object" none with
  accessFlags := 33
  interfaces := #[]
  cf := some (fileOf pool0 8 #[] #[{ accessFlags := 1, nameIndex := 5, descriptorIndex := 6, attributes := #[] }] 33 0 #[] #[])
  fields := #[]
  methods := #[k0m0]
  instanceTypes := #[]
  staticTypes := #[]
  resolved := Array.replicate 124 none
  statics := none }

def pool1 : Array CpInfo := pool [(2, .class_ 4), (1, u "java/lang/Object"), (0, u "<init>"), (0, u "()V"), (0, .methodref 8 9), (0, .class_ 10), (0, .nameAndType 11 12), (0, u "java/lang/Math"), (0, u "min"), (0, u "(II)I"), (0, .methodref 8 14), (0, .nameAndType 15 12), (0, u "max"), (0, .methodref 17 18), (0, .class_ 19), (0, .nameAndType 20 21), (0, u "com/example/nuthatch/nuthatch/logic/DemandsWithinPinLaw"), (0, u "pick"), (0, u "(IIIIII)I"), (0, .methodref 17 23), (0, .nameAndType 24 25), (0, u "member"), (0, u "(IIIII)Z"), (0, .methodref 27 28), (0, .class_ 29), (0, .nameAndType 30 31), (0, u "com/example/nuthatch/nuthatch/logic/Demands"), (0, u "within"), (0, u "([I[I)Z"), (2, u "law"), (0, u "(IIIIII)Z")] 5

def k1m0 : Method := { name := "<init>", desc := "()V", sig := { parameters := [], returnType := none }, accessFlags := 2, code := none }
def k1c1 : Code := { maxStack := 7, maxLocals := 16, code := code, exceptionTable := #[], attributes := #[] }
def k1m1 : Method := { name := "law", desc := "(IIIIII)Z", sig := { parameters := [.int, .int, .int, .int, .int, .int], returnType := some .boolean }, accessFlags := 9, code := some k1c1 }
def k1c2 : Code := { maxStack := 2, maxLocals := 7, code := method_3_code, exceptionTable := #[], attributes := #[] }
def k1m2 : Method := { name := "pick", desc := "(IIIIII)I", sig := { parameters := [.int, .int, .int, .int, .int, .int], returnType := some .int }, accessFlags := 10, code := some k1c2 }
def k1c3 : Code := { maxStack := 2, maxLocals := 5, code := method_4_code, exceptionTable := #[], attributes := #[] }
def k1m3 : Method := { name := "member", desc := "(IIIII)Z", sig := { parameters := [.int, .int, .int, .int, .int], returnType := some .boolean }, accessFlags := 10, code := some k1c3 }
/-- com/example/nuthatch/nuthatch/logic/DemandsWithinPinLaw -/
def k1 : Class := { plain "com/example/nuthatch/nuthatch/logic/DemandsWithinPinLaw" (some 0) with
  accessFlags := 49
  interfaces := #[]
  cf := some (fileOf pool1 17 #[] #[{ accessFlags := 2, nameIndex := 5, descriptorIndex := 6, attributes := #[] }, { accessFlags := 9, nameIndex := 34, descriptorIndex := 35, attributes := #[] }, { accessFlags := 10, nameIndex := 20, descriptorIndex := 21, attributes := #[] }, { accessFlags := 10, nameIndex := 24, descriptorIndex := 25, attributes := #[] }] 49 2 #[] #[])
  fields := #[]
  methods := #[k1m0, k1m1, k1m2, k1m3]
  instanceTypes := #[]
  staticTypes := #[]
  resolved := Array.replicate 41 none
  statics := none }

def pool2 : Array CpInfo := pool [(1, .class_ 2), (0, u "java/lang/Math"), (1, .class_ 6), (1, u "java/lang/Object"), (0, u "<init>"), (0, u "()V"), (89, .class_ 100), (1, u "java/lang/Math$RandomNumberGeneratorHolder"), (71, u "negativeZeroFloatBits"), (0, u "J"), (2, u "negativeZeroDoubleBits"), (21, u "max"), (2, u "min"), (43, u "$assertionsDisabled"), (0, u "Z"), (88, u "(II)I"), (2, u "twoToTheDoubleScaleDown"), (0, u "D"), (4, u "twoToTheDoubleScaleUp"), (9, u "E"), (3, u "PI"), (2, u "TAU"), (2, u "DEGREES_TO_RADIANS"), (0, u "RADIANS_TO_DEGREES")] 94

def k2m0 : Method := { name := "<init>", desc := "()V", sig := { parameters := [], returnType := none }, accessFlags := 2, code := none }
def k2c1 : Code := { maxStack := 2, maxLocals := 2, code := jdk_29_method_65_code, exceptionTable := #[], attributes := #[] }
def k2m1 : Method := { name := "max", desc := "(II)I", sig := { parameters := [.int, .int], returnType := some .int }, accessFlags := 9, code := some k2c1 }
def k2c2 : Code := { maxStack := 2, maxLocals := 2, code := jdk_29_method_69_code, exceptionTable := #[], attributes := #[] }
def k2m2 : Method := { name := "min", desc := "(II)I", sig := { parameters := [.int, .int], returnType := some .int }, accessFlags := 9, code := some k2c2 }
/-- java/lang/Math -/
def k2 : Class := { plain "java/lang/Math" (some 0) with
  accessFlags := 49
  interfaces := #[]
  cf := some (fileOf pool2 1 #[.nestMembers #[98]] #[{ accessFlags := 2, nameIndex := 7, descriptorIndex := 8, attributes := #[] }, { accessFlags := 9, nameIndex := 198, descriptorIndex := 335, attributes := #[] }, { accessFlags := 9, nameIndex := 201, descriptorIndex := 335, attributes := #[] }] 49 4 #[] #[{ accessFlags := 25, nameIndex := 354, descriptorIndex := 339, attributes := #[] }, { accessFlags := 25, nameIndex := 358, descriptorIndex := 339, attributes := #[] }, { accessFlags := 25, nameIndex := 361, descriptorIndex := 339, attributes := #[] }, { accessFlags := 26, nameIndex := 364, descriptorIndex := 339, attributes := #[] }, { accessFlags := 26, nameIndex := 365, descriptorIndex := 339, attributes := #[] }, { accessFlags := 26, nameIndex := 172, descriptorIndex := 173, attributes := #[] }, { accessFlags := 26, nameIndex := 176, descriptorIndex := 173, attributes := #[] }, { accessFlags := 8, nameIndex := 344, descriptorIndex := 339, attributes := #[] }, { accessFlags := 8, nameIndex := 338, descriptorIndex := 339, attributes := #[] }, { accessFlags := 4120, nameIndex := 245, descriptorIndex := 246, attributes := #[] }])
  fields := #[{ name := "E", type := .double, accessFlags := 25, slot := 0, constantValue := 0 }, { name := "PI", type := .double, accessFlags := 25, slot := 1, constantValue := 0 }, { name := "TAU", type := .double, accessFlags := 25, slot := 2, constantValue := 0 }, { name := "DEGREES_TO_RADIANS", type := .double, accessFlags := 26, slot := 3, constantValue := 0 }, { name := "RADIANS_TO_DEGREES", type := .double, accessFlags := 26, slot := 4, constantValue := 0 }, { name := "negativeZeroFloatBits", type := .long, accessFlags := 26, slot := 5, constantValue := 0 }, { name := "negativeZeroDoubleBits", type := .long, accessFlags := 26, slot := 6, constantValue := 0 }, { name := "twoToTheDoubleScaleUp", type := .double, accessFlags := 8, slot := 7, constantValue := 0 }, { name := "twoToTheDoubleScaleDown", type := .double, accessFlags := 8, slot := 8, constantValue := 0 }, { name := "$assertionsDisabled", type := .boolean, accessFlags := 4120, slot := 9, constantValue := 0 }]
  methods := #[k2m0, k2m1, k2m2]
  instanceTypes := #[]
  staticTypes := #[.double, .double, .double, .double, .double, .long, .long, .double, .double, .boolean]
  resolved := Array.replicate 460 none
  statics := none }

def pool3 : Array CpInfo := pool [(2, .class_ 4), (1, u "java/lang/Object"), (0, u "<init>"), (0, u "()V"), (52, .class_ 60), (0, u "com/example/nuthatch/nuthatch/logic/Demands"), (0, u "NOMINALS"), (0, u "I"), (2, u "ANY_NOMINALS"), (10, u "within"), (0, u "([I[I)Z"), (8, .class_ 87), (0, u "com/example/nuthatch/nuthatch/logic/Demands$Failure"), (0, .class_ 89), (0, u "com/example/nuthatch/nuthatch/logic/Demands$Attempt"), (0, .class_ 91), (0, u "com/example/nuthatch/nuthatch/logic/Demands$Tree"), (0, .class_ 93), (0, u "com/example/nuthatch/nuthatch/logic/Demands$Demand")] 23

def k3m0 : Method := { name := "<init>", desc := "()V", sig := { parameters := [], returnType := none }, accessFlags := 2, code := none }
def k3c1 : Code := { maxStack := 2, maxLocals := 7, code := prog_43_method_5_code, exceptionTable := #[], attributes := #[] }
def k3m1 : Method := { name := "within", desc := "([I[I)Z", sig := { parameters := [(.array .int), (.array .int)], returnType := some .boolean }, accessFlags := 8, code := some k3c1 }
/-- com/example/nuthatch/nuthatch/logic/Demands -/
def k3 : Class := { plain "com/example/nuthatch/nuthatch/logic/Demands" (some 0) with
  accessFlags := 48
  interfaces := #[]
  cf := some (fileOf pool3 59 #[.nestMembers #[86, 88, 90, 92]] #[{ accessFlags := 2, nameIndex := 5, descriptorIndex := 6, attributes := #[] }, { accessFlags := 8, nameIndex := 76, descriptorIndex := 77, attributes := #[] }] 48 2 #[] #[{ accessFlags := 24, nameIndex := 61, descriptorIndex := 62, attributes := #[] }, { accessFlags := 24, nameIndex := 65, descriptorIndex := 62, attributes := #[] }])
  fields := #[{ name := "NOMINALS", type := .int, accessFlags := 24, slot := 0, constantValue := 0 }, { name := "ANY_NOMINALS", type := .int, accessFlags := 24, slot := 1, constantValue := 0 }]
  methods := #[k3m0, k3m1]
  instanceTypes := #[]
  staticTypes := #[.int, .int]
  resolved := Array.replicate 117 none
  statics := none }

def pool4 : Array CpInfo := pool [(1, u "java/lang/Cloneable"), (0, .class_ 1), (0, u "java/lang/Object"), (0, .class_ 3)] 3

/-- java/lang/Cloneable -/
def k4 : Class := { plain "java/lang/Cloneable" (some 0) with
  accessFlags := 1537
  interfaces := #[]
  cf := some (fileOf pool4 2 #[] #[] 1537 4 #[] #[])
  fields := #[]
  methods := #[]
  instanceTypes := #[]
  staticTypes := #[]
  resolved := Array.replicate 8 none
  statics := none }

def pool5 : Array CpInfo := pool [(1, u "java/io/Serializable"), (0, .class_ 1), (0, u "java/lang/Object"), (0, .class_ 3)] 3

/-- java/io/Serializable -/
def k5 : Class := { plain "java/io/Serializable" (some 0) with
  accessFlags := 1537
  interfaces := #[]
  cf := some (fileOf pool5 2 #[] #[] 1537 4 #[] #[])
  fields := #[]
  methods := #[]
  instanceTypes := #[]
  staticTypes := #[]
  resolved := Array.replicate 8 none
  statics := none }

/-- the primitive byte -/
def k6 : Class := { plain "byte" none with kind := .primitive 'B', accessFlags := 0x411 }
/-- [B -/
def k7 : Class := { plain "[B" (some 0) with kind := .array 6 .byte, interfaces := #[4, 5], accessFlags := 1041 }

/-- the primitive int -/
def k8 : Class := { plain "int" none with kind := .primitive 'I', accessFlags := 0x411 }
/-- [I -/
def k9 : Class := { plain "[I" (some 0) with kind := .array 8 .int, interfaces := #[4, 5], accessFlags := 1041 }

def heap : Heap := #[]
def classes : Array Class := #[k0, k1, k2, k3, k4, k5, k6, k7, k8, k9]
def interned : List (Array UInt16 × Addr) := []
def slotsUsed : Nat := 0
def theMethod : MethodId := ⟨1, 1⟩
def args0 : Array Value := #[.int 3, .int 1000, .int 5, .int 7, .int 9, .int 11]
def aboutOver (below : List Frame) : State where
  vm := { classes := classes, interned := interned.toArray }
  heap := heap
  slotsUsed := slotsUsed
  threads := #[{ frames := .invoking theMethod args0 :: below }]
def below0 : List Frame := [.native { method := ⟨0, 0⟩, args := #[] }]
def about1 : State := aboutOver below0
def p0 : Program := .bare "" "" ""
def e0 : Env := launch0.env 0 0 0
theorem w_frames : about1.frames = Frame.invoking theMethod args0 :: below0 := rfl
set_option maxRecDepth 65536 in
theorem w_args : argsFit about1.vm theMethod args0 = true := by decide +kernel
set_option maxRecDepth 65536 in
theorem w_heap : heapFits about1 = true := by decide +kernel
set_option maxRecDepth 65536 in
theorem w_runnable : about1.curStatus? = some .runnable := by decide +kernel
set_option maxRecDepth 65536 in
theorem w_alone : about1.alone = true := by decide +kernel
set_option maxRecDepth 65536 in
theorem w_named : about1.methodNamed? x = some theMethod := by decide +kernel
set_option maxRecDepth 65536 in
theorem w_hears : about1.hears theMethod below0 = true := by decide +kernel
set_option maxRecDepth 65536 in
theorem w_ripe : about1.ripe theMethod args0 below0 = true := by decide +kernel
theorem w_running : about1.status = .running := rfl
set_option maxRecDepth 65536 in
theorem w_room : about1.hasRoom e0.platform room_1 = true :=
  launch0.hasRoom_least _ room_1 (by decide +kernel) (by decide +kernel) (by decide +kernel) (by decide +kernel) (by decide +kernel) (by decide +kernel)
theorem allAtoms_all (ts : List Jvm.Cond) (a : Array Jvm.Value) (st : Jvm.State) : (allAtoms ts).before a st = ts.all (fun c => c.before a st) := by
  induction ts with
  | nil => rfl
  | cons c t ih =>
    show (Jvm.Cond.and c (allAtoms t)).before a st = _
    rw [Jvm.Cond.before_and, ih, List.all_cons]
def words1 : List Jvm.Cond := Jvm.Cond.code x code maxLocals ret :: tables_1
/-- a 'code' word, met by the world's own term for the bytes: nothing is compared byte by byte -/
theorem code_word {y : MethodName} {bytes : ByteArray} {mx : Nat} {rt : Option FieldType} {a : Array Value} {s : State} {m : MethodId} {meth : Method} {c : Code} (h1 : s.methodNamed? y = some m) (h2 : s.vm.method? m = some meth) (h3 : meth.code = some c) (h4 : c.code = bytes)
    (h5 : (c.maxLocals == mx && c.exceptionTable.isEmpty && decide (c.maxStack ≤ mostOperands) && decide (meth.sig.returnType = rt) && !meth.locks && decide (parseMethodDescriptor y.desc = some meth.sig)) = true) : (Jvm.Cond.code y bytes mx rt).before a s = true := by
  simp only [Bool.and_eq_true, beq_iff_eq, Bool.not_eq_true', decide_eq_true_eq] at h5
  obtain ⟨⟨⟨⟨⟨g1, g2⟩, g3⟩, g4⟩, g5⟩, g6⟩ := h5
  simp [Cond.before, Cond.holds, Cond.value, h1, h2, h3, h4, g1, g2, g3, g4, g5, g6]
def isCode : Jvm.Cond → Bool
  | .code _ _ _ _ => true
  | _ => false
theorem all_split {L : List Jvm.Cond} {P : Jvm.Cond → Bool} (h1 : L.all (fun c => isCode c || P c) = true) (h2 : ∀ c ∈ L.filter isCode, P c = true) : L.all P = true := by
  refine List.all_eq_true.mpr fun c hc => ?_
  have h := List.all_eq_true.mp h1 c hc
  rcases Bool.eq_false_or_eq_true (isCode c) with hi | hi
  · exact h2 c (List.mem_filter.mpr ⟨hc, hi⟩)
  · simpa [hi] using h
set_option maxRecDepth 65536 in
theorem w_c0 : (Jvm.Cond.code x code maxLocals ret).before args0 about1 = true := code_word (m := ⟨1, 1⟩) (meth := k1m1) (c := k1c1) (by decide +kernel) rfl rfl rfl (by decide +kernel)
set_option maxRecDepth 65536 in
theorem w_c1 : (Jvm.Cond.code ({ cls := "java/lang/Math", name := "min", desc := "(II)I" } : Jvm.MethodName) jdk_29_method_69_code (2 : Nat) (Option.some Jvm.ClassFile.FieldType.int)).before args0 about1 = true := code_word (m := ⟨2, 2⟩) (meth := k2m2) (c := k2c2) (by decide +kernel) rfl rfl rfl (by decide +kernel)
set_option maxRecDepth 65536 in
theorem w_c2 : (Jvm.Cond.code ({ cls := "java/lang/Math", name := "max", desc := "(II)I" } : Jvm.MethodName) jdk_29_method_65_code (2 : Nat) (Option.some Jvm.ClassFile.FieldType.int)).before args0 about1 = true := code_word (m := ⟨2, 1⟩) (meth := k2m1) (c := k2c1) (by decide +kernel) rfl rfl rfl (by decide +kernel)
set_option maxRecDepth 65536 in
theorem w_c3 : (Jvm.Cond.code ({ cls := "com/example/nuthatch/nuthatch/logic/DemandsWithinPinLaw", name := "pick", desc := "(IIIIII)I" } : Jvm.MethodName) method_3_code (7 : Nat) (Option.some Jvm.ClassFile.FieldType.int)).before args0 about1 = true := code_word (m := ⟨1, 2⟩) (meth := k1m2) (c := k1c2) (by decide +kernel) rfl rfl rfl (by decide +kernel)
set_option maxRecDepth 65536 in
theorem w_c4 : (Jvm.Cond.code ({ cls := "com/example/nuthatch/nuthatch/logic/Demands", name := "within", desc := "([I[I)Z" } : Jvm.MethodName) prog_43_method_5_code (7 : Nat) (Option.some Jvm.ClassFile.FieldType.boolean)).before args0 about1 = true := code_word (m := ⟨3, 1⟩) (meth := k3m1) (c := k3c1) (by decide +kernel) rfl rfl rfl (by decide +kernel)
set_option maxRecDepth 65536 in
theorem w_c5 : (Jvm.Cond.code ({ cls := "com/example/nuthatch/nuthatch/logic/DemandsWithinPinLaw", name := "member", desc := "(IIIII)Z" } : Jvm.MethodName) method_4_code (5 : Nat) (Option.some Jvm.ClassFile.FieldType.boolean)).before args0 about1 = true := code_word (m := ⟨1, 3⟩) (meth := k1m3) (c := k1c3) (by decide +kernel) rfl rfl rfl (by decide +kernel)
def codes1 : List Jvm.Cond := [Jvm.Cond.code x code maxLocals ret, Jvm.Cond.code ({ cls := "java/lang/Math", name := "min", desc := "(II)I" } : Jvm.MethodName) jdk_29_method_69_code (2 : Nat) (Option.some Jvm.ClassFile.FieldType.int), Jvm.Cond.code ({ cls := "java/lang/Math", name := "max", desc := "(II)I" } : Jvm.MethodName) jdk_29_method_65_code (2 : Nat) (Option.some Jvm.ClassFile.FieldType.int), Jvm.Cond.code ({ cls := "com/example/nuthatch/nuthatch/logic/DemandsWithinPinLaw", name := "pick", desc := "(IIIIII)I" } : Jvm.MethodName) method_3_code (7 : Nat) (Option.some Jvm.ClassFile.FieldType.int), Jvm.Cond.code ({ cls := "com/example/nuthatch/nuthatch/logic/Demands", name := "within", desc := "([I[I)Z" } : Jvm.MethodName) prog_43_method_5_code (7 : Nat) (Option.some Jvm.ClassFile.FieldType.boolean), Jvm.Cond.code ({ cls := "com/example/nuthatch/nuthatch/logic/DemandsWithinPinLaw", name := "member", desc := "(IIIII)Z" } : Jvm.MethodName) method_4_code (5 : Nat) (Option.some Jvm.ClassFile.FieldType.boolean)]
set_option maxRecDepth 65536 in
theorem codes_eq : words1.filter isCode = codes1 := rfl
theorem w_codes : ∀ c ∈ words1.filter isCode, c.before args0 about1 = true := by
  rw [codes_eq]
  intro c hc
  simp only [codes1, List.mem_cons, List.not_mem_nil, or_false] at hc
  rcases hc with rfl | rfl | rfl | rfl | rfl | rfl
  · exact w_c0
  · exact w_c1
  · exact w_c2
  · exact w_c3
  · exact w_c4
  · exact w_c5
set_option maxRecDepth 65536 in
theorem w_t1 : words1.all (fun c => isCode c || c.before args0 about1) = true := by decide +kernel
theorem w_tables : (allAtoms (Jvm.Cond.code x code maxLocals ret :: tables_1)).before args0 about1 = true := by
  rw [allAtoms_all]
  show words1.all (fun c => c.before args0 about1) = true
  refine all_split ?_ w_codes
  rw [w_t1]
set_option maxRecDepth 65536 in
theorem w_case : (Jvm.Cond.and given_1 narrow_1).before args0 about1 = true := by decide +kernel
theorem w_applies : (headSpec (Jvm.Cond.code x code maxLocals ret :: tables_1) room_1).applies x e0.platform about1 = true :=
  (Spec.applies_iff w_frames).mpr ⟨w_running, w_runnable, w_alone, w_named, w_hears, w_ripe, w_room, w_tables⟩
theorem atStart : AtStart classFile x code maxLocals ret World_1 tables_1 room_1 Calls_1 rest_1 Pre_1 launch0 p0 e0 about1 theMethod args0 below0 :=
  ⟨lists_1, trivial, launch0.admits_env _ _ _, launch0.least_env, fairChoices_fair.cas, fairChoices_fair.clock, w_frames, w_args, w_heap, w_applies, trivial, trivial, w_case⟩
end start1
theorem witness_1 : WitnessClaimed_1 := ⟨start1.p0, start1.e0, start1.about1, start1.theMethod, start1.args0, start1.below0, start1.atStart⟩
end Jvm.Pilot.@@N@@
