import JvmDerived
import JvmDerived.Pilot.@@N@@Statement
import JvmDerived.Pilot.@@N@@Code
set_option linter.unusedVariables false
set_option linter.unusedSimpArgs false
namespace Jvm.RoadKit
open Sem ClassFile Op Lib Jvm.Stand Jvm.Free Jvm.LawKit
section New
variable {p : Program} {l : Launch} {e : Env} {R : Room} {s : State} {m : MethodId} {args : Array Value} {below : List Frame} {meth : Method} {c : Code} {T : State} {locs : List Loc} {cells slots : Nat}
theorem retI (X : Stand p l e R s m args below meth c T locs cells slots) (hx : p.tables.exec = Jvm.exec) {pc : Nat} {Ls : Array Slot} {z : Int32} {rest : List Value} (hret : meth.sig.returnType = some .int) (hd : decode c.code pc = .ok (.ireturn, 1)) {fs : List Frame}
    (hl : ∀ (f : JFrame) (acts : List Action), f.method = m → f.locked = none → f.entered = [] → (doReturn e (T.setTop f) acts (some (.int z))).1 = T.setFrames fs) : Steps p.tables e below (T.setTop (mkF m pc Ls (.int z :: rest))) (T.setFrames fs) := by
  have hm' : T.vm.method? m = some meth := X.method'
  have hn : narrow .int (.int z) = .int z := rfl
  show Steps p.tables e below (T.setTop { method := m, pc := pc, locals := Ls, stack := _ :: rest, locked := none }) _
  jvm_step X.here [X.here.top, hx, hd, hm', hret, hn]
  first | (intro acts; rw [hl _ acts rfl rfl rfl]) | rw [hl _ _ rfl rfl rfl]
  exact Steps.refl _
end New
end Jvm.RoadKit
namespace Jvm.Pilot.@@N@@
open Jvm Jvm.ClassFile Sem Op Lib Jvm.Free Jvm.Stand Jvm.LawKit Jvm.RoadKit Bundle Jvm.Pilot.@@N@@.Jvm.D
/-! the goals of a walk, and what closes them -/
def OEnd (p : Program) (e : Env) (below : List Frame) (s T : State) (g : JFrame) (Q : Option Value → Heap → List Loc → Prop) (kc ks : Nat) : Prop :=
  ∃ s₂ o, Steps p.tables e below (T.setTop g) s₂ ∧ s₂.status = .running ∧ Ended s₂ below o ∧ ∃ v L, o = .returned v ∧ Q v s₂.heap L ∧ FrameEnd s o s₂ L kc ks
def ORch (p : Program) (l : Launch) (e : Env) (R : Room) (s : State) (m : MethodId) (args : Array Value) (below : List Frame) (meth : Method) (c : Code) (n0 : Nat) (T : State) (g : JFrame) (h : Heap) (g' : JFrame) (cells slots : Nat) : Prop :=
  ∃ T' locs', Stand p l e R s m args below meth c T' locs' cells slots ∧ T'.heap = h ∧ Fr n0 locs' ∧ Goes p e below T g T' g'
def OArr (Z : State) (h : Heap) (a : Addr) (ty : FieldType) (n : Int32) (vs : List Value) (d : Value) : Prop := ∃ k, Arv Z h a k ty n vs d
def ORchH (p : Program) (l : Launch) (e : Env) (R : Room) (s : State) (m : MethodId) (args : Array Value) (below : List Frame) (meth : Method) (c : Code) (n0 : Nat) (T : State) (g : JFrame) (g' : JFrame) (cells slots : Nat) (P : Heap → Prop) : Prop :=
  ∃ T' h' locs', Stand p l e R s m args below meth c T' locs' cells slots ∧ T'.heap = h' ∧ Fr n0 locs' ∧ P h' ∧ Goes p e below T g T' g'
def ORchB (p : Program) (l : Launch) (e : Env) (R : Room) (s : State) (m : MethodId) (args : Array Value) (below : List Frame) (meth : Method) (c : Code) (n0 : Nat) (T : State) (g : JFrame) (g' : Addr → JFrame) (cells slots : Nat) (P : Heap → Addr → Prop) : Prop :=
  ∃ b T' h' locs', Stand p l e R s m args below meth c T' locs' cells slots ∧ T'.heap = h' ∧ Fr n0 locs' ∧ P h' b ∧ Goes p e below T g T' (g' b)
section Own
variable {p : Program} {l : Launch} {e : Env} {R : Room} {s : State} {m : MethodId} {args : Array Value} {below : List Frame} {meth : Method} {c : Code} {T T' : State} {locs : List Loc} {cells slots : Nat} {g g' g'' : JFrame} {Q : Option Value → Heap → List Loc → Prop} {kc ks : Nat}
theorem OEnd.go (k : Goes p e below T g T' g') (h : OEnd p e below s T' g' Q kc ks) : OEnd p e below s T g Q kc ks := by
  obtain ⟨s₂, o, h1, h2⟩ := h
  exact ⟨s₂, o, k _ h1, h2⟩
theorem ORch.go {n0 : Nat} {h : Heap} (k : Goes p e below T g T' g') (q : ORch p l e R s m args below meth c n0 T' g' h g'' cells slots) : ORch p l e R s m args below meth c n0 T g h g'' cells slots := by
  obtain ⟨T2, L2, h1, h2, h3, h4⟩ := q
  exact ⟨T2, L2, h1, h2, h3, fun t kt => k _ (h4 t kt)⟩
theorem ORchH.go {n0 : Nat} {P : Heap → Prop} (k : Goes p e below T g T' g') (q : ORchH p l e R s m args below meth c n0 T' g' g'' cells slots P) : ORchH p l e R s m args below meth c n0 T g g'' cells slots P := by
  obtain ⟨T2, h2, L2, h1, h2, h3, h4, h5⟩ := q
  exact ⟨T2, _, L2, h1, h2, h3, h4, fun t kt => k _ (h5 t kt)⟩
theorem ORchB.go {n0 : Nat} {P : Heap → Addr → Prop} {gb : Addr → JFrame} (k : Goes p e below T g T' g') (q : ORchB p l e R s m args below meth c n0 T' g' gb cells slots P) : ORchB p l e R s m args below meth c n0 T g gb cells slots P := by
  obtain ⟨b, T2, h2, L2, h1, h2, h3, h4, h5⟩ := q
  exact ⟨b, T2, _, L2, h1, h2, h3, h4, fun t kt => k _ (h5 t kt)⟩
theorem SGo.go {t : State} (k : Goes p e below T g T' g') (h : Steps p.tables e below (T'.setTop g') t) : Steps p.tables e below (T.setTop g) t := k _ h
theorem own_k {A : Type} {tb : Tables} {f : A → JFrame} {a b : A} {t : State} (q : a = b) (k : Steps tb e below (T.setTop (f a)) t) : Steps tb e below (T.setTop (f b)) t := q ▸ k
theorem own_symm {A : Type} {a b : A} (h : a = b) : b = a := h.symm
theorem own_via {A : Type} {a b c : A} (h : a = b) (k : a = c) : b = c := h.symm.trans k
theorem own_p {A : Type} {P : A → Prop} {a b : A} (q : a = b) (w : P a) : P b := q ▸ w
theorem own_at {h : Heap} {U : Heap} (q : U = h) {P : Heap → Prop} (w : P h) : P U := q ▸ w
theorem OArr.lt {Z : State} {h : Heap} {a : Addr} {ty : FieldType} {n : Int32} {vs : List Value} {d : Value} (F : OArr Z h a ty n vs d) : a < h.size := by obtain ⟨k, V⟩ := F; exact V.lt
theorem OArr.ext {Z : State} {h h' : Heap} {a : Addr} {ty : FieldType} {n : Int32} {vs : List Value} {d : Value} (F : OArr Z h a ty n vs d) (E : Ext h h') : OArr Z h' a ty n vs d := by obtain ⟨k, V⟩ := F; exact ⟨k, V.ext E⟩
theorem OArr.other {Z : State} {h h' : Heap} {a b : Addr} {ty : FieldType} {n : Int32} {vs : List Value} {d v : Value} {sl : Nat} (F : OArr Z h b ty n vs d) (W : Wr h h' a sl v) (q : b ≠ a) : OArr Z h' b ty n vs d := by obtain ⟨k, V⟩ := F; exact ⟨k, V.other W q⟩
theorem OArr.keep {Z : State} {h h' : Heap} {a : Addr} {ty : FieldType} {n : Int32} {vs : List Value} {d : Value} {ws : List Addr} (F : OArr Z h a ty n vs d) (K : Keep h h' ws) (q : a ∉ ws) : OArr Z h' a ty n vs d := by obtain ⟨k, V⟩ := F; exact ⟨k, V.keep K q⟩
theorem OEnd.int (X : Stand p l e R s m args below meth c T locs cells slots) (hx : p.tables.exec = Jvm.exec) {pc : Nat} {Ls : Array Slot} {z : Int32} {rest : List Value} (hret : meth.sig.returnType = some .int) (hlk : meth.locks = false) (hd : decode c.code pc = .ok (.ireturn, 1)) (hq : Q (some (.int z)) T.heap locs) (hc : cells ≤ kc) (hs : slots ≤ ks) :
    OEnd p e below s T (mkF m pc Ls (.int z :: rest)) Q kc ks := by
  obtain ⟨fs, hr, hrun, hended, hW, hsame⟩ := X.leave (v := some (.int z)) (fun h => by rw [hret] at h; cases h) hlk
  exact ⟨_, _, retI X hx hret hd hr, hrun, hended, _, _, rfl, hq, ⟨_, rfl⟩, hW, hsame.mono hc hs⟩
theorem OEnd.nar (X : Stand p l e R s m args below meth c T locs cells slots) (hx : p.tables.exec = Jvm.exec) {pc : Nat} {Ls : Array Slot} {z : Int32} {rest : List Value} {t : FieldType} (hret : meth.sig.returnType = some t) (ht : t = .boolean ∨ t = .byte ∨ t = .char ∨ t = .short) (hlk : meth.locks = false) (hd : decode c.code pc = .ok (.ireturn, 1)) (hq : Q (some (.int (nar t z))) T.heap locs) (hc : cells ≤ kc) (hs : slots ≤ ks) :
    OEnd p e below s T (mkF m pc Ls (.int z :: rest)) Q kc ks := by
  obtain ⟨fs, hr, hrun, hended, hW, hsame⟩ := X.leave (v := some (.int (RoadKit.nar t z))) (fun h => by rw [hret] at h; cases h) hlk
  exact ⟨_, _, retN X hx hret ht hd hr, hrun, hended, _, _, rfl, hq, ⟨_, rfl⟩, hW, hsame.mono hc hs⟩
theorem OEnd.long (X : Stand p l e R s m args below meth c T locs cells slots) (hx : p.tables.exec = Jvm.exec) {pc : Nat} {Ls : Array Slot} {z : Int64} (hret : meth.sig.returnType = some .long) (hlk : meth.locks = false) (hd : decode c.code pc = .ok (.lreturn, 1)) (hq : Q (some (.long z)) T.heap locs) (hc : cells ≤ kc) (hs : slots ≤ ks) :
    OEnd p e below s T (mkF m pc Ls [.long z]) Q kc ks := by
  obtain ⟨fs, hr, hrun, hended, hW, hsame⟩ := X.leave (v := some (.long z)) (fun h => by rw [hret] at h; cases h) hlk
  exact ⟨_, _, X.lreturnOut hx hret hd hr, hrun, hended, _, _, rfl, hq, ⟨_, rfl⟩, hW, hsame.mono hc hs⟩
theorem OEnd.void (X : Stand p l e R s m args below meth c T locs cells slots) (hx : p.tables.exec = Jvm.exec) {pc : Nat} {Ls : Array Slot} (hret : meth.sig.returnType = none) (hlk : meth.locks = false) (hd : decode c.code pc = .ok (.return_, 1)) (hq : Q none T.heap locs) (hc : cells ≤ kc) (hs : slots ≤ ks) :
    OEnd p e below s T (mkF m pc Ls []) Q kc ks := by
  obtain ⟨fs, hr, hrun, hended, hW, hsame⟩ := X.leave (v := none) (fun _ => rfl) hlk
  exact ⟨_, _, X.returnOut hx hret hd hr, hrun, hended, _, _, rfl, hq, ⟨_, rfl⟩, hW, hsame.mono hc hs⟩
end Own
theorem d1_0 : decode method_2_code 0 = .ok (.iload_n 0, 1) := by decide +kernel
theorem d1_1 : decode method_2_code 1 = .ok (.iconst 3, 1) := by decide +kernel
theorem d1_2 : decode method_2_code 2 = .ok (.iand, 1) := by decide +kernel
theorem d1_3 : decode method_2_code 3 = .ok (.istore_n 3, 1) := by decide +kernel
theorem d1_4 : decode method_2_code 4 = .ok (.iload_n 3, 1) := by decide +kernel
theorem d1_5 : decode method_2_code 5 = .ok (.ifCond .ne 5, 3) := by decide +kernel
theorem d1_8 : decode method_2_code 8 = .ok (.iconst (-1), 1) := by decide +kernel
theorem d1_9 : decode method_2_code 9 = .ok (.ireturn, 1) := by decide +kernel
theorem d1_10 : decode method_2_code 10 = .ok (.iload_n 3, 1) := by decide +kernel
theorem d1_11 : decode method_2_code 11 = .ok (.iconst 1, 1) := by decide +kernel
theorem d1_12 : decode method_2_code 12 = .ok (.if_icmp .ne 6, 3) := by decide +kernel
theorem d1_15 : decode method_2_code 15 = .ok (.bipush (-2), 2) := by decide +kernel
theorem d1_17 : decode method_2_code 17 = .ok (.ireturn, 1) := by decide +kernel
theorem d1_18 : decode method_2_code 18 = .ok (.iload_n 3, 1) := by decide +kernel
theorem d1_19 : decode method_2_code 19 = .ok (.iconst 2, 1) := by decide +kernel
theorem d1_20 : decode method_2_code 20 = .ok (.if_icmp .ne 5, 3) := by decide +kernel
theorem d1_23 : decode method_2_code 23 = .ok (.iload_n 1, 1) := by decide +kernel
theorem d1_24 : decode method_2_code 24 = .ok (.ireturn, 1) := by decide +kernel
theorem d1_25 : decode method_2_code 25 = .ok (.iload_n 2, 1) := by decide +kernel
theorem d1_26 : decode method_2_code 26 = .ok (.ireturn, 1) := by decide +kernel
def f1 (p0 : Int32) (p1 : Int32) (p2 : Int32) : Int32 := (if (p0 &&& (3 : Int32)) = (0 : Int32) then (-1 : Int32) else (if (p0 &&& (3 : Int32)) = (1 : Int32) then (-2 : Int32) else (if (p0 &&& (3 : Int32)) = (2 : Int32) then p1 else p2)))
theorem pn_com_example_induce_induce_learn_IncidenceJoinedPinLaw : plainName "com/example/induce/induce/learn/IncidenceJoinedPinLaw" = true := by first | (simp [plainName, overriddenIn]; done) | decide +kernel
theorem ef_1 (m : MethodId) (x0 : Int32) (x1 : Int32) (x2 : Int32) : entryFrame m #[(.int x0), (.int x1), (.int x2)] 4 = mkF m 0 #[.val (.int x0), .val (.int x1), .val (.int x2), .unset] [] := by first | (simp [entryFrame, mkF, argsToLocals, Value.category]; done) | rfl
def Q1 (Z : State) (p0 : Int32) (p1 : Int32) (p2 : Int32) (h0 : Heap) (n0 : Nat) (v : Option Value) (h : Heap) (L : List Loc) : Prop := v = some (.int (f1 p0 p1 p2)) ∧ Fr n0 L ∧ h = h0
set_option maxRecDepth 65536 in
set_option maxHeartbeats 40000000 in
theorem rm1 (l : Launch) (Z : State) (a0 : Array Value) (hw : ∀ d ∈ tables_1, d.before a0 Z = true) (ws : List Jvm.Cond) (p0 : Int32) (p1 : Int32) (p2 : Int32) (h0 : Heap) (n0 : Nat) (Z0 : n0 ≤ h0.size) :
    MetFree l (⟨"com/example/induce/induce/learn/IncidenceJoinedPinLaw", "pick", "(III)I"⟩ : MethodName) (head1 (Jvm.Cond.code (⟨"com/example/induce/induce/learn/IncidenceJoinedPinLaw", "pick", "(III)I"⟩ : MethodName) method_2_code 4 (some .int) :: ws) ({ frames := 0, cells := 0, slots := 0, locals := 0 } : Room)) (fun a U => a = #[(.int p0), (.int p1), (.int p2)] ∧ Z.Warmed39 U.vm ∧ U.heap = h0) (fun _ _ _ _ _ => True) (fun _ U o U' => ∃ v L, o = .returned v ∧ Q1 Z p0 p1 p2 h0 n0 v U'.heap L ∧ FrameEnd U o U' L ({ frames := 0, cells := 0, slots := 0, locals := 0 } : Room).cells ({ frames := 0, cells := 0, slots := 0, locals := 0 } : Room).slots) := by
  refine MetFree.of_bodySF (plainFor_of_name pn_com_example_induce_induce_learn_IncidenceJoinedPinLaw) hisR ?_
  intro p e s m args below meth c s₁ Bd hml0 hP hK
  obtain ⟨rfl, hZ, hh⟩ := hP
  have hx := Bd.exec
  have hby := Bd.bytes
  have hlk : meth.locks = false := BodyLoose.notSynchronized Bd
  have hml : c.maxLocals = 4 := hml0
  have hown : s.vm.findClass "com/example/induce/induce/learn/IncidenceJoinedPinLaw" = some m.cls := findClass_of_methodNamed Bd.named
  have hnm := (name_of_methodNamed Bd.named Bd.method).1
  have X0 : Stand p l e ({ frames := 0, cells := 0, slots := 0, locals := 0 } : Room) s m #[(.int p0), (.int p1), (.int p2)] below meth c s₁ [] 0 0 := Stand.of_body Bd
  have e0 : s₁.heap = h0 := by rw [← hh, Bd.state]; rfl
  have N0 := Fr.nil n0
  show OEnd p e below s s₁ (entryFrame m #[(.int p0), (.int p1), (.int p2)] 4) (Q1 Z p0 p1 p2 h0 n0) ({ frames := 0, cells := 0, slots := 0, locals := 0 } : Room).cells ({ frames := 0, cells := 0, slots := 0, locals := 0 } : Room).slots
  refine OEnd.go (g' := (mkF m 0 #[.val (.int p0), .val (.int p1), .val (.int p2), .unset] [])) (fun _ k => castTop (ef_1 m p0 p1 p2) k) ?_
  refine OEnd.go (T' := s₁) (g' := (mkF m 5 #[.val (.int p0), .val (.int p1), .val (.int p2), .val (.int (p0 &&& (3 : Int32)))] [(.int (p0 &&& (3 : Int32)))])) (fun t k => ?_) ?_
  · show Steps p.tables e below (s₁.setTop (mkF m 0 #[.val (.int p0), .val (.int p1), .val (.int p2), .unset] [])) t
    refine XS.iloadN X0.here hx rfl (hb hby d1_0) rfl ?_
    show Steps p.tables e below (s₁.setTop (mkF m 1 #[.val (.int p0), .val (.int p1), .val (.int p2), .unset] [(.int p0)])) t
    refine XS.iconst X0.here hx rfl (hb hby d1_1) ?_
    show Steps p.tables e below (s₁.setTop (mkF m 2 #[.val (.int p0), .val (.int p1), .val (.int p2), .unset] [(.int (3 : Int32)), (.int p0)])) t
    refine XS.iand X0.here hx rfl (hb hby d1_2) rfl ?_
    show Steps p.tables e below (s₁.setTop (mkF m 3 #[.val (.int p0), .val (.int p1), .val (.int p2), .unset] [(.int (p0 &&& (3 : Int32)))])) t
    refine XS.istoreN X0.here hx rfl (hb hby d1_3) rfl (l' := #[.val (.int p0), .val (.int p1), .val (.int p2), .val (.int (p0 &&& (3 : Int32)))]) rfl ?_
    show Steps p.tables e below (s₁.setTop (mkF m 4 #[.val (.int p0), .val (.int p1), .val (.int p2), .val (.int (p0 &&& (3 : Int32)))] [])) t
    refine XS.iloadN X0.here hx rfl (hb hby d1_4) rfl ?_
    show Steps p.tables e below (s₁.setTop (mkF m 5 #[.val (.int p0), .val (.int p1), .val (.int p2), .val (.int (p0 &&& (3 : Int32)))] [(.int (p0 &&& (3 : Int32)))])) t
    exact k
  by_cases hc1 : (p0 &&& (3 : Int32)) = (0 : Int32)
  · skip
    refine OEnd.go (T' := s₁) (g' := (mkF m 8 #[.val (.int p0), .val (.int p1), .val (.int p2), .val (.int (p0 &&& (3 : Int32)))] [])) (fun t k => ?_) ?_
    · show Steps p.tables e below (s₁.setTop (mkF m 5 #[.val (.int p0), .val (.int p1), .val (.int p2), .val (.int (p0 &&& (3 : Int32)))] [(.int (p0 &&& (3 : Int32)))])) t
      refine XS.ifNo X0.here hx rfl (hb hby d1_5) rfl ((if0 _ _).trans (teq (hc1)).2) ?_
      show Steps p.tables e below (s₁.setTop (mkF m 8 #[.val (.int p0), .val (.int p1), .val (.int p2), .val (.int (p0 &&& (3 : Int32)))] [])) t
      exact k
    refine OEnd.go (T' := s₁) (g' := (mkF m 9 #[.val (.int p0), .val (.int p1), .val (.int p2), .val (.int (p0 &&& (3 : Int32)))] [(.int (-1 : Int32))])) (fun t k => ?_) ?_
    · show Steps p.tables e below (s₁.setTop (mkF m 8 #[.val (.int p0), .val (.int p1), .val (.int p2), .val (.int (p0 &&& (3 : Int32)))] [])) t
      refine XS.iconst X0.here hx rfl (hb hby d1_8) ?_
      show Steps p.tables e below (s₁.setTop (mkF m 9 #[.val (.int p0), .val (.int p1), .val (.int p2), .val (.int (p0 &&& (3 : Int32)))] [(.int (-1 : Int32))])) t
      exact k
    exact OEnd.int X0 hx Bd.returns hlk (hb hby d1_9) ⟨(congrArg (fun z => some (Value.int z)) (own_symm (if_pos hc1))), N0, e0⟩ (by decide) (by decide)
  · skip
    refine OEnd.go (T' := s₁) (g' := (mkF m 10 #[.val (.int p0), .val (.int p1), .val (.int p2), .val (.int (p0 &&& (3 : Int32)))] [])) (fun t k => ?_) ?_
    · show Steps p.tables e below (s₁.setTop (mkF m 5 #[.val (.int p0), .val (.int p1), .val (.int p2), .val (.int (p0 &&& (3 : Int32)))] [(.int (p0 &&& (3 : Int32)))])) t
      refine XS.ifYes X0.here hx rfl (pc0 := 5) (pc' := 10) rfl (hb hby d1_5) rfl ((if0 _ _).trans (feq (hc1)).2) (by decide) (by decide) ?_
      show Steps p.tables e below (s₁.setTop (mkF m 10 #[.val (.int p0), .val (.int p1), .val (.int p2), .val (.int (p0 &&& (3 : Int32)))] [])) t
      exact k
    refine OEnd.go (T' := s₁) (g' := (mkF m 12 #[.val (.int p0), .val (.int p1), .val (.int p2), .val (.int (p0 &&& (3 : Int32)))] [(.int (1 : Int32)), (.int (p0 &&& (3 : Int32)))])) (fun t k => ?_) ?_
    · show Steps p.tables e below (s₁.setTop (mkF m 10 #[.val (.int p0), .val (.int p1), .val (.int p2), .val (.int (p0 &&& (3 : Int32)))] [])) t
      refine XS.iloadN X0.here hx rfl (hb hby d1_10) rfl ?_
      show Steps p.tables e below (s₁.setTop (mkF m 11 #[.val (.int p0), .val (.int p1), .val (.int p2), .val (.int (p0 &&& (3 : Int32)))] [(.int (p0 &&& (3 : Int32)))])) t
      refine XS.iconst X0.here hx rfl (hb hby d1_11) ?_
      show Steps p.tables e below (s₁.setTop (mkF m 12 #[.val (.int p0), .val (.int p1), .val (.int p2), .val (.int (p0 &&& (3 : Int32)))] [(.int (1 : Int32)), (.int (p0 &&& (3 : Int32)))])) t
      exact k
    by_cases hc2 : (p0 &&& (3 : Int32)) = (1 : Int32)
    · skip
      refine OEnd.go (T' := s₁) (g' := (mkF m 15 #[.val (.int p0), .val (.int p1), .val (.int p2), .val (.int (p0 &&& (3 : Int32)))] [])) (fun t k => ?_) ?_
      · show Steps p.tables e below (s₁.setTop (mkF m 12 #[.val (.int p0), .val (.int p1), .val (.int p2), .val (.int (p0 &&& (3 : Int32)))] [(.int (1 : Int32)), (.int (p0 &&& (3 : Int32)))])) t
        refine XS.icmpNo X0.here hx rfl (hb hby d1_12) rfl (teq (hc2)).2 ?_
        show Steps p.tables e below (s₁.setTop (mkF m 15 #[.val (.int p0), .val (.int p1), .val (.int p2), .val (.int (p0 &&& (3 : Int32)))] [])) t
        exact k
      refine OEnd.go (T' := s₁) (g' := (mkF m 17 #[.val (.int p0), .val (.int p1), .val (.int p2), .val (.int (p0 &&& (3 : Int32)))] [(.int (-2 : Int32))])) (fun t k => ?_) ?_
      · show Steps p.tables e below (s₁.setTop (mkF m 15 #[.val (.int p0), .val (.int p1), .val (.int p2), .val (.int (p0 &&& (3 : Int32)))] [])) t
        refine XS.bipush X0.here hx rfl (hb hby d1_15) ?_
        show Steps p.tables e below (s₁.setTop (mkF m 17 #[.val (.int p0), .val (.int p1), .val (.int p2), .val (.int (p0 &&& (3 : Int32)))] [(.int (-2 : Int32))])) t
        exact k
      exact OEnd.int X0 hx Bd.returns hlk (hb hby d1_17) ⟨(congrArg (fun z => some (Value.int z)) (own_symm ((if_neg hc1).trans (if_pos hc2)))), N0, e0⟩ (by decide) (by decide)
    · skip
      refine OEnd.go (T' := s₁) (g' := (mkF m 18 #[.val (.int p0), .val (.int p1), .val (.int p2), .val (.int (p0 &&& (3 : Int32)))] [])) (fun t k => ?_) ?_
      · show Steps p.tables e below (s₁.setTop (mkF m 12 #[.val (.int p0), .val (.int p1), .val (.int p2), .val (.int (p0 &&& (3 : Int32)))] [(.int (1 : Int32)), (.int (p0 &&& (3 : Int32)))])) t
        refine XS.icmpYes X0.here hx rfl (pc0 := 12) (pc' := 18) rfl (hb hby d1_12) rfl (feq (hc2)).2 (by decide) (by decide) ?_
        show Steps p.tables e below (s₁.setTop (mkF m 18 #[.val (.int p0), .val (.int p1), .val (.int p2), .val (.int (p0 &&& (3 : Int32)))] [])) t
        exact k
      refine OEnd.go (T' := s₁) (g' := (mkF m 20 #[.val (.int p0), .val (.int p1), .val (.int p2), .val (.int (p0 &&& (3 : Int32)))] [(.int (2 : Int32)), (.int (p0 &&& (3 : Int32)))])) (fun t k => ?_) ?_
      · show Steps p.tables e below (s₁.setTop (mkF m 18 #[.val (.int p0), .val (.int p1), .val (.int p2), .val (.int (p0 &&& (3 : Int32)))] [])) t
        refine XS.iloadN X0.here hx rfl (hb hby d1_18) rfl ?_
        show Steps p.tables e below (s₁.setTop (mkF m 19 #[.val (.int p0), .val (.int p1), .val (.int p2), .val (.int (p0 &&& (3 : Int32)))] [(.int (p0 &&& (3 : Int32)))])) t
        refine XS.iconst X0.here hx rfl (hb hby d1_19) ?_
        show Steps p.tables e below (s₁.setTop (mkF m 20 #[.val (.int p0), .val (.int p1), .val (.int p2), .val (.int (p0 &&& (3 : Int32)))] [(.int (2 : Int32)), (.int (p0 &&& (3 : Int32)))])) t
        exact k
      by_cases hc3 : (p0 &&& (3 : Int32)) = (2 : Int32)
      · skip
        refine OEnd.go (T' := s₁) (g' := (mkF m 23 #[.val (.int p0), .val (.int p1), .val (.int p2), .val (.int (p0 &&& (3 : Int32)))] [])) (fun t k => ?_) ?_
        · show Steps p.tables e below (s₁.setTop (mkF m 20 #[.val (.int p0), .val (.int p1), .val (.int p2), .val (.int (p0 &&& (3 : Int32)))] [(.int (2 : Int32)), (.int (p0 &&& (3 : Int32)))])) t
          refine XS.icmpNo X0.here hx rfl (hb hby d1_20) rfl (teq (hc3)).2 ?_
          show Steps p.tables e below (s₁.setTop (mkF m 23 #[.val (.int p0), .val (.int p1), .val (.int p2), .val (.int (p0 &&& (3 : Int32)))] [])) t
          exact k
        refine OEnd.go (T' := s₁) (g' := (mkF m 24 #[.val (.int p0), .val (.int p1), .val (.int p2), .val (.int (p0 &&& (3 : Int32)))] [(.int p1)])) (fun t k => ?_) ?_
        · show Steps p.tables e below (s₁.setTop (mkF m 23 #[.val (.int p0), .val (.int p1), .val (.int p2), .val (.int (p0 &&& (3 : Int32)))] [])) t
          refine XS.iloadN X0.here hx rfl (hb hby d1_23) rfl ?_
          show Steps p.tables e below (s₁.setTop (mkF m 24 #[.val (.int p0), .val (.int p1), .val (.int p2), .val (.int (p0 &&& (3 : Int32)))] [(.int p1)])) t
          exact k
        exact OEnd.int X0 hx Bd.returns hlk (hb hby d1_24) ⟨(congrArg (fun z => some (Value.int z)) (own_symm ((if_neg hc1).trans ((if_neg hc2).trans (if_pos hc3))))), N0, e0⟩ (by decide) (by decide)
      · skip
        refine OEnd.go (T' := s₁) (g' := (mkF m 25 #[.val (.int p0), .val (.int p1), .val (.int p2), .val (.int (p0 &&& (3 : Int32)))] [])) (fun t k => ?_) ?_
        · show Steps p.tables e below (s₁.setTop (mkF m 20 #[.val (.int p0), .val (.int p1), .val (.int p2), .val (.int (p0 &&& (3 : Int32)))] [(.int (2 : Int32)), (.int (p0 &&& (3 : Int32)))])) t
          refine XS.icmpYes X0.here hx rfl (pc0 := 20) (pc' := 25) rfl (hb hby d1_20) rfl (feq (hc3)).2 (by decide) (by decide) ?_
          show Steps p.tables e below (s₁.setTop (mkF m 25 #[.val (.int p0), .val (.int p1), .val (.int p2), .val (.int (p0 &&& (3 : Int32)))] [])) t
          exact k
        refine OEnd.go (T' := s₁) (g' := (mkF m 26 #[.val (.int p0), .val (.int p1), .val (.int p2), .val (.int (p0 &&& (3 : Int32)))] [(.int p2)])) (fun t k => ?_) ?_
        · show Steps p.tables e below (s₁.setTop (mkF m 25 #[.val (.int p0), .val (.int p1), .val (.int p2), .val (.int (p0 &&& (3 : Int32)))] [])) t
          refine XS.iloadN X0.here hx rfl (hb hby d1_25) rfl ?_
          show Steps p.tables e below (s₁.setTop (mkF m 26 #[.val (.int p0), .val (.int p1), .val (.int p2), .val (.int (p0 &&& (3 : Int32)))] [(.int p2)])) t
          exact k
        exact OEnd.int X0 hx Bd.returns hlk (hb hby d1_26) ⟨(congrArg (fun z => some (Value.int z)) (own_symm ((if_neg hc1).trans ((if_neg hc2).trans (if_neg hc3))))), N0, e0⟩ (by decide) (by decide)
theorem d2_0 : decode prog_37_method_3_code 0 = .ok (.iload_n 0, 1) := by decide +kernel
theorem d2_1 : decode prog_37_method_3_code 1 = .ok (.iconst (-1), 1) := by decide +kernel
theorem d2_2 : decode prog_37_method_3_code 2 = .ok (.if_icmp .ne 8, 3) := by decide +kernel
theorem d2_5 : decode prog_37_method_3_code 5 = .ok (.iload_n 1, 1) := by decide +kernel
theorem d2_6 : decode prog_37_method_3_code 6 = .ok (.istore_n 2, 1) := by decide +kernel
theorem d2_7 : decode prog_37_method_3_code 7 = .ok (.goto 21, 3) := by decide +kernel
theorem d2_10 : decode prog_37_method_3_code 10 = .ok (.iload_n 1, 1) := by decide +kernel
theorem d2_11 : decode prog_37_method_3_code 11 = .ok (.iconst (-1), 1) := by decide +kernel
theorem d2_12 : decode prog_37_method_3_code 12 = .ok (.if_icmp .eq 8, 3) := by decide +kernel
theorem d2_20 : decode prog_37_method_3_code 20 = .ok (.iload_n 0, 1) := by decide +kernel
theorem d2_21 : decode prog_37_method_3_code 21 = .ok (.istore_n 2, 1) := by decide +kernel
theorem d2_22 : decode prog_37_method_3_code 22 = .ok (.goto 6, 3) := by decide +kernel
theorem d2_15 : decode prog_37_method_3_code 15 = .ok (.iload_n 1, 1) := by decide +kernel
theorem d2_16 : decode prog_37_method_3_code 16 = .ok (.iload_n 0, 1) := by decide +kernel
theorem d2_17 : decode prog_37_method_3_code 17 = .ok (.if_icmp .ne 8, 3) := by decide +kernel
theorem d2_25 : decode prog_37_method_3_code 25 = .ok (.bipush (-2), 2) := by decide +kernel
theorem d2_27 : decode prog_37_method_3_code 27 = .ok (.istore_n 2, 1) := by decide +kernel
theorem d2_28 : decode prog_37_method_3_code 28 = .ok (.iload_n 2, 1) := by decide +kernel
theorem d2_29 : decode prog_37_method_3_code 29 = .ok (.ireturn, 1) := by decide +kernel
def v2_28_2 (p0 : Int32) (p1 : Int32) : Int32 := (if p0 = (-1 : Int32) then p1 else (if p1 = (-1 : Int32) then p0 else (if p1 = p0 then p0 else (-2 : Int32))))
def f2 (p0 : Int32) (p1 : Int32) : Int32 := (v2_28_2 p0 p1)
theorem pn_com_example_induce_induce_learn_Incidence : plainName "com/example/induce/induce/learn/Incidence" = true := by first | (simp [plainName, overriddenIn]; done) | decide +kernel
theorem ef_2 (m : MethodId) (x0 : Int32) (x1 : Int32) : entryFrame m #[(.int x0), (.int x1)] 3 = mkF m 0 #[.val (.int x0), .val (.int x1), .unset] [] := by first | (simp [entryFrame, mkF, argsToLocals, Value.category]; done) | rfl
def Q2 (Z : State) (p0 : Int32) (p1 : Int32) (h0 : Heap) (n0 : Nat) (v : Option Value) (h : Heap) (L : List Loc) : Prop := v = some (.int (f2 p0 p1)) ∧ Fr n0 L ∧ h = h0
set_option maxRecDepth 65536 in
set_option maxHeartbeats 40000000 in
theorem rm2 (l : Launch) (Z : State) (a0 : Array Value) (hw : ∀ d ∈ tables_1, d.before a0 Z = true) (ws : List Jvm.Cond) (p0 : Int32) (p1 : Int32) (h0 : Heap) (n0 : Nat) (Z0 : n0 ≤ h0.size) :
    MetFree l (⟨"com/example/induce/induce/learn/Incidence", "joined", "(II)I"⟩ : MethodName) (head1 (Jvm.Cond.code (⟨"com/example/induce/induce/learn/Incidence", "joined", "(II)I"⟩ : MethodName) prog_37_method_3_code 3 (some .int) :: ws) ({ frames := 0, cells := 0, slots := 0, locals := 0 } : Room)) (fun a U => a = #[(.int p0), (.int p1)] ∧ Z.Warmed39 U.vm ∧ U.heap = h0) (fun _ _ _ _ _ => True) (fun _ U o U' => ∃ v L, o = .returned v ∧ Q2 Z p0 p1 h0 n0 v U'.heap L ∧ FrameEnd U o U' L ({ frames := 0, cells := 0, slots := 0, locals := 0 } : Room).cells ({ frames := 0, cells := 0, slots := 0, locals := 0 } : Room).slots) := by
  refine MetFree.of_bodySF (plainFor_of_name pn_com_example_induce_induce_learn_Incidence) hisR ?_
  intro p e s m args below meth c s₁ Bd hml0 hP hK
  obtain ⟨rfl, hZ, hh⟩ := hP
  have hx := Bd.exec
  have hby := Bd.bytes
  have hlk : meth.locks = false := BodyLoose.notSynchronized Bd
  have hml : c.maxLocals = 3 := hml0
  have hown : s.vm.findClass "com/example/induce/induce/learn/Incidence" = some m.cls := findClass_of_methodNamed Bd.named
  have hnm := (name_of_methodNamed Bd.named Bd.method).1
  have X0 : Stand p l e ({ frames := 0, cells := 0, slots := 0, locals := 0 } : Room) s m #[(.int p0), (.int p1)] below meth c s₁ [] 0 0 := Stand.of_body Bd
  have e0 : s₁.heap = h0 := by rw [← hh, Bd.state]; rfl
  have N0 := Fr.nil n0
  show OEnd p e below s s₁ (entryFrame m #[(.int p0), (.int p1)] 3) (Q2 Z p0 p1 h0 n0) ({ frames := 0, cells := 0, slots := 0, locals := 0 } : Room).cells ({ frames := 0, cells := 0, slots := 0, locals := 0 } : Room).slots
  refine OEnd.go (g' := (mkF m 0 #[.val (.int p0), .val (.int p1), .unset] [])) (fun _ k => castTop (ef_2 m p0 p1) k) ?_
  refine OEnd.go (T' := s₁) (g' := (mkF m 2 #[.val (.int p0), .val (.int p1), .unset] [(.int (-1 : Int32)), (.int p0)])) (fun t k => ?_) ?_
  · show Steps p.tables e below (s₁.setTop (mkF m 0 #[.val (.int p0), .val (.int p1), .unset] [])) t
    refine XS.iloadN X0.here hx rfl (hb hby d2_0) rfl ?_
    show Steps p.tables e below (s₁.setTop (mkF m 1 #[.val (.int p0), .val (.int p1), .unset] [(.int p0)])) t
    refine XS.iconst X0.here hx rfl (hb hby d2_1) ?_
    show Steps p.tables e below (s₁.setTop (mkF m 2 #[.val (.int p0), .val (.int p1), .unset] [(.int (-1 : Int32)), (.int p0)])) t
    exact k
  refine OEnd.go (T' := s₁) (g' := (mkF m 28 #[.val (.int p0), .val (.int p1), .val (.int (if p0 = (-1 : Int32) then p1 else (if p1 = (-1 : Int32) then p0 else (if p1 = p0 then p0 else (-2 : Int32)))))] [])) (fun t k => ?_) ?_
  · show Steps p.tables e below (s₁.setTop (mkF m 2 #[.val (.int p0), .val (.int p1), .unset] [(.int (-1 : Int32)), (.int p0)])) t
    by_cases hc1 : p0 = (-1 : Int32)
    · skip
      refine XS.icmpNo X0.here hx rfl (hb hby d2_2) rfl (teq (hc1)).2 ?_
      show Steps p.tables e below (s₁.setTop (mkF m 5 #[.val (.int p0), .val (.int p1), .unset] [])) t
      refine SGo.go (T' := s₁) (g' := (mkF m 28 #[.val (.int p0), .val (.int p1), .val (.int p1)] [])) (fun t k => ?_) ?_
      · show Steps p.tables e below (s₁.setTop (mkF m 5 #[.val (.int p0), .val (.int p1), .unset] [])) t
        refine XS.iloadN X0.here hx rfl (hb hby d2_5) rfl ?_
        show Steps p.tables e below (s₁.setTop (mkF m 6 #[.val (.int p0), .val (.int p1), .unset] [(.int p1)])) t
        refine XS.istoreN X0.here hx rfl (hb hby d2_6) rfl (l' := #[.val (.int p0), .val (.int p1), .val (.int p1)]) rfl ?_
        show Steps p.tables e below (s₁.setTop (mkF m 7 #[.val (.int p0), .val (.int p1), .val (.int p1)] [])) t
        refine XS.goto X0.here hx rfl (pc0 := 7) (pc' := 28) rfl (hb hby d2_7) (by decide) (by decide) ?_
        show Steps p.tables e below (s₁.setTop (mkF m 28 #[.val (.int p0), .val (.int p1), .val (.int p1)] [])) t
        exact k
      exact (own_k (f := fun (z : Int32) => mkF m 28 #[.val (.int p0), .val (.int p1), .val (.int z)] []) (if_pos hc1) k)
    · skip
      refine XS.icmpYes X0.here hx rfl (pc0 := 2) (pc' := 10) rfl (hb hby d2_2) rfl (feq (hc1)).2 (by decide) (by decide) ?_
      show Steps p.tables e below (s₁.setTop (mkF m 10 #[.val (.int p0), .val (.int p1), .unset] [])) t
      refine SGo.go (T' := s₁) (g' := (mkF m 12 #[.val (.int p0), .val (.int p1), .unset] [(.int (-1 : Int32)), (.int p1)])) (fun t k => ?_) ?_
      · show Steps p.tables e below (s₁.setTop (mkF m 10 #[.val (.int p0), .val (.int p1), .unset] [])) t
        refine XS.iloadN X0.here hx rfl (hb hby d2_10) rfl ?_
        show Steps p.tables e below (s₁.setTop (mkF m 11 #[.val (.int p0), .val (.int p1), .unset] [(.int p1)])) t
        refine XS.iconst X0.here hx rfl (hb hby d2_11) ?_
        show Steps p.tables e below (s₁.setTop (mkF m 12 #[.val (.int p0), .val (.int p1), .unset] [(.int (-1 : Int32)), (.int p1)])) t
        exact k
      by_cases hc2 : p1 = (-1 : Int32)
      · skip
        refine XS.icmpYes X0.here hx rfl (pc0 := 12) (pc' := 20) rfl (hb hby d2_12) rfl (teq (hc2)).1 (by decide) (by decide) ?_
        show Steps p.tables e below (s₁.setTop (mkF m 20 #[.val (.int p0), .val (.int p1), .unset] [])) t
        refine SGo.go (T' := s₁) (g' := (mkF m 28 #[.val (.int p0), .val (.int p1), .val (.int p0)] [])) (fun t k => ?_) ?_
        · show Steps p.tables e below (s₁.setTop (mkF m 20 #[.val (.int p0), .val (.int p1), .unset] [])) t
          refine XS.iloadN X0.here hx rfl (hb hby d2_20) rfl ?_
          show Steps p.tables e below (s₁.setTop (mkF m 21 #[.val (.int p0), .val (.int p1), .unset] [(.int p0)])) t
          refine XS.istoreN X0.here hx rfl (hb hby d2_21) rfl (l' := #[.val (.int p0), .val (.int p1), .val (.int p0)]) rfl ?_
          show Steps p.tables e below (s₁.setTop (mkF m 22 #[.val (.int p0), .val (.int p1), .val (.int p0)] [])) t
          refine XS.goto X0.here hx rfl (pc0 := 22) (pc' := 28) rfl (hb hby d2_22) (by decide) (by decide) ?_
          show Steps p.tables e below (s₁.setTop (mkF m 28 #[.val (.int p0), .val (.int p1), .val (.int p0)] [])) t
          exact k
        exact (own_k (f := fun (z : Int32) => mkF m 28 #[.val (.int p0), .val (.int p1), .val (.int z)] []) ((if_neg hc1).trans (if_pos hc2)) k)
      · skip
        refine XS.icmpNo X0.here hx rfl (hb hby d2_12) rfl (feq (hc2)).1 ?_
        show Steps p.tables e below (s₁.setTop (mkF m 15 #[.val (.int p0), .val (.int p1), .unset] [])) t
        refine SGo.go (T' := s₁) (g' := (mkF m 17 #[.val (.int p0), .val (.int p1), .unset] [(.int p0), (.int p1)])) (fun t k => ?_) ?_
        · show Steps p.tables e below (s₁.setTop (mkF m 15 #[.val (.int p0), .val (.int p1), .unset] [])) t
          refine XS.iloadN X0.here hx rfl (hb hby d2_15) rfl ?_
          show Steps p.tables e below (s₁.setTop (mkF m 16 #[.val (.int p0), .val (.int p1), .unset] [(.int p1)])) t
          refine XS.iloadN X0.here hx rfl (hb hby d2_16) rfl ?_
          show Steps p.tables e below (s₁.setTop (mkF m 17 #[.val (.int p0), .val (.int p1), .unset] [(.int p0), (.int p1)])) t
          exact k
        by_cases hc3 : p1 = p0
        · skip
          refine XS.icmpNo X0.here hx rfl (hb hby d2_17) rfl (teq (hc3)).2 ?_
          show Steps p.tables e below (s₁.setTop (mkF m 20 #[.val (.int p0), .val (.int p1), .unset] [])) t
          refine SGo.go (T' := s₁) (g' := (mkF m 28 #[.val (.int p0), .val (.int p1), .val (.int p0)] [])) (fun t k => ?_) ?_
          · show Steps p.tables e below (s₁.setTop (mkF m 20 #[.val (.int p0), .val (.int p1), .unset] [])) t
            refine XS.iloadN X0.here hx rfl (hb hby d2_20) rfl ?_
            show Steps p.tables e below (s₁.setTop (mkF m 21 #[.val (.int p0), .val (.int p1), .unset] [(.int p0)])) t
            refine XS.istoreN X0.here hx rfl (hb hby d2_21) rfl (l' := #[.val (.int p0), .val (.int p1), .val (.int p0)]) rfl ?_
            show Steps p.tables e below (s₁.setTop (mkF m 22 #[.val (.int p0), .val (.int p1), .val (.int p0)] [])) t
            refine XS.goto X0.here hx rfl (pc0 := 22) (pc' := 28) rfl (hb hby d2_22) (by decide) (by decide) ?_
            show Steps p.tables e below (s₁.setTop (mkF m 28 #[.val (.int p0), .val (.int p1), .val (.int p0)] [])) t
            exact k
          exact (own_k (f := fun (z : Int32) => mkF m 28 #[.val (.int p0), .val (.int p1), .val (.int z)] []) ((if_neg hc1).trans ((if_neg hc2).trans (if_pos hc3))) k)
        · skip
          refine XS.icmpYes X0.here hx rfl (pc0 := 17) (pc' := 25) rfl (hb hby d2_17) rfl (feq (hc3)).2 (by decide) (by decide) ?_
          show Steps p.tables e below (s₁.setTop (mkF m 25 #[.val (.int p0), .val (.int p1), .unset] [])) t
          refine SGo.go (T' := s₁) (g' := (mkF m 28 #[.val (.int p0), .val (.int p1), .val (.int (-2 : Int32))] [])) (fun t k => ?_) ?_
          · show Steps p.tables e below (s₁.setTop (mkF m 25 #[.val (.int p0), .val (.int p1), .unset] [])) t
            refine XS.bipush X0.here hx rfl (hb hby d2_25) ?_
            show Steps p.tables e below (s₁.setTop (mkF m 27 #[.val (.int p0), .val (.int p1), .unset] [(.int (-2 : Int32))])) t
            refine XS.istoreN X0.here hx rfl (hb hby d2_27) rfl (l' := #[.val (.int p0), .val (.int p1), .val (.int (-2 : Int32))]) rfl ?_
            show Steps p.tables e below (s₁.setTop (mkF m 28 #[.val (.int p0), .val (.int p1), .val (.int (-2 : Int32))] [])) t
            exact k
          exact (own_k (f := fun (z : Int32) => mkF m 28 #[.val (.int p0), .val (.int p1), .val (.int z)] []) ((if_neg hc1).trans ((if_neg hc2).trans (if_neg hc3))) k)
  refine OEnd.go (T' := s₁) (g' := (mkF m 29 #[.val (.int p0), .val (.int p1), .val (.int (v2_28_2 p0 p1))] [(.int (v2_28_2 p0 p1))])) (fun t k => ?_) ?_
  · show Steps p.tables e below (s₁.setTop (mkF m 28 #[.val (.int p0), .val (.int p1), .val (.int (v2_28_2 p0 p1))] [])) t
    refine XS.iloadN X0.here hx rfl (hb hby d2_28) rfl ?_
    show Steps p.tables e below (s₁.setTop (mkF m 29 #[.val (.int p0), .val (.int p1), .val (.int (v2_28_2 p0 p1))] [(.int (v2_28_2 p0 p1))])) t
    exact k
  exact OEnd.int X0 hx Bd.returns hlk (hb hby d2_29) ⟨rfl, N0, e0⟩ (by decide) (by decide)
theorem d4_0 : decode method_3_code 0 = .ok (.iload_n 0, 1) := by decide +kernel
theorem d4_1 : decode method_3_code 1 = .ok (.iconst (-1), 1) := by decide +kernel
theorem d4_2 : decode method_3_code 2 = .ok (.if_icmp .ne 5, 3) := by decide +kernel
theorem d4_5 : decode method_3_code 5 = .ok (.iconst 0, 1) := by decide +kernel
theorem d4_6 : decode method_3_code 6 = .ok (.ireturn, 1) := by decide +kernel
theorem d4_7 : decode method_3_code 7 = .ok (.iload_n 0, 1) := by decide +kernel
theorem d4_8 : decode method_3_code 8 = .ok (.bipush (-2), 2) := by decide +kernel
theorem d4_10 : decode method_3_code 10 = .ok (.if_icmp .ne 5, 3) := by decide +kernel
theorem d4_13 : decode method_3_code 13 = .ok (.iconst 2, 1) := by decide +kernel
theorem d4_14 : decode method_3_code 14 = .ok (.ireturn, 1) := by decide +kernel
theorem d4_15 : decode method_3_code 15 = .ok (.iconst 1, 1) := by decide +kernel
theorem d4_16 : decode method_3_code 16 = .ok (.ireturn, 1) := by decide +kernel
def f4 (p0 : Int32) : Int32 := (if p0 = (-1 : Int32) then (0 : Int32) else (if p0 = (-2 : Int32) then (2 : Int32) else (1 : Int32)))
theorem ef_4 (m : MethodId) (x0 : Int32) : entryFrame m #[(.int x0)] 1 = mkF m 0 #[.val (.int x0)] [] := by first | (simp [entryFrame, mkF, argsToLocals, Value.category]; done) | rfl
def Q4 (Z : State) (p0 : Int32) (h0 : Heap) (n0 : Nat) (v : Option Value) (h : Heap) (L : List Loc) : Prop := v = some (.int (f4 p0)) ∧ Fr n0 L ∧ h = h0
set_option maxRecDepth 65536 in
set_option maxHeartbeats 40000000 in
theorem rm4 (l : Launch) (Z : State) (a0 : Array Value) (hw : ∀ d ∈ tables_1, d.before a0 Z = true) (ws : List Jvm.Cond) (p0 : Int32) (h0 : Heap) (n0 : Nat) (Z0 : n0 ≤ h0.size) :
    MetFree l (⟨"com/example/induce/induce/learn/IncidenceJoinedPinLaw", "size", "(I)I"⟩ : MethodName) (head1 (Jvm.Cond.code (⟨"com/example/induce/induce/learn/IncidenceJoinedPinLaw", "size", "(I)I"⟩ : MethodName) method_3_code 1 (some .int) :: ws) ({ frames := 0, cells := 0, slots := 0, locals := 0 } : Room)) (fun a U => a = #[(.int p0)] ∧ Z.Warmed39 U.vm ∧ U.heap = h0) (fun _ _ _ _ _ => True) (fun _ U o U' => ∃ v L, o = .returned v ∧ Q4 Z p0 h0 n0 v U'.heap L ∧ FrameEnd U o U' L ({ frames := 0, cells := 0, slots := 0, locals := 0 } : Room).cells ({ frames := 0, cells := 0, slots := 0, locals := 0 } : Room).slots) := by
  refine MetFree.of_bodySF (plainFor_of_name pn_com_example_induce_induce_learn_IncidenceJoinedPinLaw) hisR ?_
  intro p e s m args below meth c s₁ Bd hml0 hP hK
  obtain ⟨rfl, hZ, hh⟩ := hP
  have hx := Bd.exec
  have hby := Bd.bytes
  have hlk : meth.locks = false := BodyLoose.notSynchronized Bd
  have hml : c.maxLocals = 1 := hml0
  have hown : s.vm.findClass "com/example/induce/induce/learn/IncidenceJoinedPinLaw" = some m.cls := findClass_of_methodNamed Bd.named
  have hnm := (name_of_methodNamed Bd.named Bd.method).1
  have X0 : Stand p l e ({ frames := 0, cells := 0, slots := 0, locals := 0 } : Room) s m #[(.int p0)] below meth c s₁ [] 0 0 := Stand.of_body Bd
  have e0 : s₁.heap = h0 := by rw [← hh, Bd.state]; rfl
  have N0 := Fr.nil n0
  show OEnd p e below s s₁ (entryFrame m #[(.int p0)] 1) (Q4 Z p0 h0 n0) ({ frames := 0, cells := 0, slots := 0, locals := 0 } : Room).cells ({ frames := 0, cells := 0, slots := 0, locals := 0 } : Room).slots
  refine OEnd.go (g' := (mkF m 0 #[.val (.int p0)] [])) (fun _ k => castTop (ef_4 m p0) k) ?_
  refine OEnd.go (T' := s₁) (g' := (mkF m 2 #[.val (.int p0)] [(.int (-1 : Int32)), (.int p0)])) (fun t k => ?_) ?_
  · show Steps p.tables e below (s₁.setTop (mkF m 0 #[.val (.int p0)] [])) t
    refine XS.iloadN X0.here hx rfl (hb hby d4_0) rfl ?_
    show Steps p.tables e below (s₁.setTop (mkF m 1 #[.val (.int p0)] [(.int p0)])) t
    refine XS.iconst X0.here hx rfl (hb hby d4_1) ?_
    show Steps p.tables e below (s₁.setTop (mkF m 2 #[.val (.int p0)] [(.int (-1 : Int32)), (.int p0)])) t
    exact k
  by_cases hc1 : p0 = (-1 : Int32)
  · skip
    refine OEnd.go (T' := s₁) (g' := (mkF m 5 #[.val (.int p0)] [])) (fun t k => ?_) ?_
    · show Steps p.tables e below (s₁.setTop (mkF m 2 #[.val (.int p0)] [(.int (-1 : Int32)), (.int p0)])) t
      refine XS.icmpNo X0.here hx rfl (hb hby d4_2) rfl (teq (hc1)).2 ?_
      show Steps p.tables e below (s₁.setTop (mkF m 5 #[.val (.int p0)] [])) t
      exact k
    refine OEnd.go (T' := s₁) (g' := (mkF m 6 #[.val (.int p0)] [(.int (0 : Int32))])) (fun t k => ?_) ?_
    · show Steps p.tables e below (s₁.setTop (mkF m 5 #[.val (.int p0)] [])) t
      refine XS.iconst X0.here hx rfl (hb hby d4_5) ?_
      show Steps p.tables e below (s₁.setTop (mkF m 6 #[.val (.int p0)] [(.int (0 : Int32))])) t
      exact k
    exact OEnd.int X0 hx Bd.returns hlk (hb hby d4_6) ⟨(congrArg (fun z => some (Value.int z)) (own_symm (if_pos hc1))), N0, e0⟩ (by decide) (by decide)
  · skip
    refine OEnd.go (T' := s₁) (g' := (mkF m 7 #[.val (.int p0)] [])) (fun t k => ?_) ?_
    · show Steps p.tables e below (s₁.setTop (mkF m 2 #[.val (.int p0)] [(.int (-1 : Int32)), (.int p0)])) t
      refine XS.icmpYes X0.here hx rfl (pc0 := 2) (pc' := 7) rfl (hb hby d4_2) rfl (feq (hc1)).2 (by decide) (by decide) ?_
      show Steps p.tables e below (s₁.setTop (mkF m 7 #[.val (.int p0)] [])) t
      exact k
    refine OEnd.go (T' := s₁) (g' := (mkF m 10 #[.val (.int p0)] [(.int (-2 : Int32)), (.int p0)])) (fun t k => ?_) ?_
    · show Steps p.tables e below (s₁.setTop (mkF m 7 #[.val (.int p0)] [])) t
      refine XS.iloadN X0.here hx rfl (hb hby d4_7) rfl ?_
      show Steps p.tables e below (s₁.setTop (mkF m 8 #[.val (.int p0)] [(.int p0)])) t
      refine XS.bipush X0.here hx rfl (hb hby d4_8) ?_
      show Steps p.tables e below (s₁.setTop (mkF m 10 #[.val (.int p0)] [(.int (-2 : Int32)), (.int p0)])) t
      exact k
    by_cases hc2 : p0 = (-2 : Int32)
    · skip
      refine OEnd.go (T' := s₁) (g' := (mkF m 13 #[.val (.int p0)] [])) (fun t k => ?_) ?_
      · show Steps p.tables e below (s₁.setTop (mkF m 10 #[.val (.int p0)] [(.int (-2 : Int32)), (.int p0)])) t
        refine XS.icmpNo X0.here hx rfl (hb hby d4_10) rfl (teq (hc2)).2 ?_
        show Steps p.tables e below (s₁.setTop (mkF m 13 #[.val (.int p0)] [])) t
        exact k
      refine OEnd.go (T' := s₁) (g' := (mkF m 14 #[.val (.int p0)] [(.int (2 : Int32))])) (fun t k => ?_) ?_
      · show Steps p.tables e below (s₁.setTop (mkF m 13 #[.val (.int p0)] [])) t
        refine XS.iconst X0.here hx rfl (hb hby d4_13) ?_
        show Steps p.tables e below (s₁.setTop (mkF m 14 #[.val (.int p0)] [(.int (2 : Int32))])) t
        exact k
      exact OEnd.int X0 hx Bd.returns hlk (hb hby d4_14) ⟨(congrArg (fun z => some (Value.int z)) (own_symm ((if_neg hc1).trans (if_pos hc2)))), N0, e0⟩ (by decide) (by decide)
    · skip
      refine OEnd.go (T' := s₁) (g' := (mkF m 15 #[.val (.int p0)] [])) (fun t k => ?_) ?_
      · show Steps p.tables e below (s₁.setTop (mkF m 10 #[.val (.int p0)] [(.int (-2 : Int32)), (.int p0)])) t
        refine XS.icmpYes X0.here hx rfl (pc0 := 10) (pc' := 15) rfl (hb hby d4_10) rfl (feq (hc2)).2 (by decide) (by decide) ?_
        show Steps p.tables e below (s₁.setTop (mkF m 15 #[.val (.int p0)] [])) t
        exact k
      refine OEnd.go (T' := s₁) (g' := (mkF m 16 #[.val (.int p0)] [(.int (1 : Int32))])) (fun t k => ?_) ?_
      · show Steps p.tables e below (s₁.setTop (mkF m 15 #[.val (.int p0)] [])) t
        refine XS.iconst X0.here hx rfl (hb hby d4_15) ?_
        show Steps p.tables e below (s₁.setTop (mkF m 16 #[.val (.int p0)] [(.int (1 : Int32))])) t
        exact k
      exact OEnd.int X0 hx Bd.returns hlk (hb hby d4_16) ⟨(congrArg (fun z => some (Value.int z)) (own_symm ((if_neg hc1).trans (if_neg hc2)))), N0, e0⟩ (by decide) (by decide)
theorem d3_0 : decode method_4_code 0 = .ok (.iload_n 0, 1) := by decide +kernel
theorem d3_1 : decode method_4_code 1 = .ok (.invokestatic 9, 3) := by decide +kernel
theorem pd__I_I : parseMethodDescriptor "(I)I" = some ⟨[.int], some .int⟩ := by decide +kernel
theorem d3_4 : decode method_4_code 4 = .ok (.ifCond .ne 5, 3) := by decide +kernel
theorem d3_7 : decode method_4_code 7 = .ok (.iload_n 1, 1) := by decide +kernel
theorem d3_8 : decode method_4_code 8 = .ok (.ireturn, 1) := by decide +kernel
theorem d3_9 : decode method_4_code 9 = .ok (.iload_n 1, 1) := by decide +kernel
theorem d3_10 : decode method_4_code 10 = .ok (.invokestatic 9, 3) := by decide +kernel
theorem d3_13 : decode method_4_code 13 = .ok (.ifCond .ne 5, 3) := by decide +kernel
theorem d3_16 : decode method_4_code 16 = .ok (.iload_n 0, 1) := by decide +kernel
theorem d3_17 : decode method_4_code 17 = .ok (.ireturn, 1) := by decide +kernel
theorem d3_18 : decode method_4_code 18 = .ok (.iload_n 0, 1) := by decide +kernel
theorem d3_19 : decode method_4_code 19 = .ok (.invokestatic 9, 3) := by decide +kernel
theorem d3_22 : decode method_4_code 22 = .ok (.iconst 1, 1) := by decide +kernel
theorem d3_23 : decode method_4_code 23 = .ok (.if_icmp .ne 18, 3) := by decide +kernel
theorem d3_26 : decode method_4_code 26 = .ok (.iload_n 1, 1) := by decide +kernel
theorem d3_27 : decode method_4_code 27 = .ok (.invokestatic 9, 3) := by decide +kernel
theorem d3_30 : decode method_4_code 30 = .ok (.iconst 1, 1) := by decide +kernel
theorem d3_31 : decode method_4_code 31 = .ok (.if_icmp .ne 10, 3) := by decide +kernel
theorem d3_34 : decode method_4_code 34 = .ok (.iload_n 0, 1) := by decide +kernel
theorem d3_35 : decode method_4_code 35 = .ok (.iload_n 1, 1) := by decide +kernel
theorem d3_36 : decode method_4_code 36 = .ok (.if_icmp .ne 5, 3) := by decide +kernel
theorem d3_39 : decode method_4_code 39 = .ok (.iload_n 0, 1) := by decide +kernel
theorem d3_40 : decode method_4_code 40 = .ok (.ireturn, 1) := by decide +kernel
theorem d3_41 : decode method_4_code 41 = .ok (.bipush (-2), 2) := by decide +kernel
theorem d3_43 : decode method_4_code 43 = .ok (.ireturn, 1) := by decide +kernel
def f3 (p0 : Int32) (p1 : Int32) : Int32 := (if (f4 p0) = (0 : Int32) then p1 else (if (f4 p1) = (0 : Int32) then p0 else (if (f4 p0) = (1 : Int32) then (if (f4 p1) = (1 : Int32) then (if p0 = p1 then p0 else (-2 : Int32)) else (-2 : Int32)) else (-2 : Int32))))
theorem ef_3 (m : MethodId) (x0 : Int32) (x1 : Int32) : entryFrame m #[(.int x0), (.int x1)] 2 = mkF m 0 #[.val (.int x0), .val (.int x1)] [] := by first | (simp [entryFrame, mkF, argsToLocals, Value.category]; done) | rfl
def Q3 (Z : State) (p0 : Int32) (p1 : Int32) (h0 : Heap) (n0 : Nat) (v : Option Value) (h : Heap) (L : List Loc) : Prop := v = some (.int (f3 p0 p1)) ∧ Fr n0 L ∧ h = h0
set_option maxRecDepth 65536 in
set_option maxHeartbeats 40000000 in
theorem rm3 (l : Launch) (Z : State) (a0 : Array Value) (hw : ∀ d ∈ tables_1, d.before a0 Z = true) (ws : List Jvm.Cond) (p0 : Int32) (p1 : Int32) (h0 : Heap) (n0 : Nat) (Z0 : n0 ≤ h0.size) :
    MetFree l (⟨"com/example/induce/induce/learn/IncidenceJoinedPinLaw", "union", "(II)I"⟩ : MethodName) (head1 (Jvm.Cond.code (⟨"com/example/induce/induce/learn/IncidenceJoinedPinLaw", "union", "(II)I"⟩ : MethodName) method_4_code 2 (some .int) :: ws) ({ frames := 1, cells := 0, slots := 0, locals := 12 } : Room)) (fun a U => a = #[(.int p0), (.int p1)] ∧ Z.Warmed39 U.vm ∧ U.heap = h0) (fun _ _ _ _ _ => True) (fun _ U o U' => ∃ v L, o = .returned v ∧ Q3 Z p0 p1 h0 n0 v U'.heap L ∧ FrameEnd U o U' L ({ frames := 1, cells := 0, slots := 0, locals := 12 } : Room).cells ({ frames := 1, cells := 0, slots := 0, locals := 12 } : Room).slots) := by
  refine MetFree.of_bodySF (plainFor_of_name pn_com_example_induce_induce_learn_IncidenceJoinedPinLaw) hisR ?_
  intro p e s m args below meth c s₁ Bd hml0 hP hK
  obtain ⟨rfl, hZ, hh⟩ := hP
  have hx := Bd.exec
  have hby := Bd.bytes
  have hlk : meth.locks = false := BodyLoose.notSynchronized Bd
  have hml : c.maxLocals = 2 := hml0
  have hown : s.vm.findClass "com/example/induce/induce/learn/IncidenceJoinedPinLaw" = some m.cls := findClass_of_methodNamed Bd.named
  have hnm := (name_of_methodNamed Bd.named Bd.method).1
  have X0 : Stand p l e ({ frames := 1, cells := 0, slots := 0, locals := 12 } : Room) s m #[(.int p0), (.int p1)] below meth c s₁ [] 0 0 := Stand.of_body Bd
  have e0 : s₁.heap = h0 := by rw [← hh, Bd.state]; rfl
  have N0 := Fr.nil n0
  show OEnd p e below s s₁ (entryFrame m #[(.int p0), (.int p1)] 2) (Q3 Z p0 p1 h0 n0) ({ frames := 1, cells := 0, slots := 0, locals := 12 } : Room).cells ({ frames := 1, cells := 0, slots := 0, locals := 12 } : Room).slots
  refine OEnd.go (g' := (mkF m 0 #[.val (.int p0), .val (.int p1)] [])) (fun _ k => castTop (ef_3 m p0 p1) k) ?_
  refine OEnd.go (T' := s₁) (g' := (mkF m 1 #[.val (.int p0), .val (.int p1)] [(.int p0)])) (fun t k => ?_) ?_
  · show Steps p.tables e below (s₁.setTop (mkF m 0 #[.val (.int p0), .val (.int p1)] [])) t
    refine XS.iloadN X0.here hx rfl (hb hby d3_0) rfl ?_
    show Steps p.tables e below (s₁.setTop (mkF m 1 #[.val (.int p0), .val (.int p1)] [(.int p0)])) t
    exact k
  obtain ⟨_, _, ⟨T1, L1, k1, n1⟩, -, X1, ⟨Lc1, hQ1, l1, y1, z1⟩, st1⟩ := Jvm.LawKit.callS X0 hx (y := (⟨"com/example/induce/induce/learn/IncidenceJoinedPinLaw", "size", "(I)I"⟩ : MethodName)) hown (mvT hZ (hw _ (List.mem_of_getElem? (i := 12) rfl))) (mvT hZ (hw _ (List.mem_of_getElem? (i := 13) rfl))) (mvT hZ (hw _ (List.mem_of_getElem? (i := 3) rfl))) (mvT hZ (hw _ (List.mem_of_getElem? (i := 14) rfl))) (by decide) (backOf (W := 0) (rm4 l Z a0 hw [] p0 h0 n0 Z0 ) hZ (hw _ (List.mem_of_getElem? (i := 14) rfl)) (hw _ (List.mem_of_getElem? (i := 3) rfl)) (by decide) (by decide)) (g := (mkF m 1 #[.val (.int p0), .val (.int p1)] [(.int p0)])) rfl (by rw [hml]; rfl) (argsL := [(.int p0)]) (rest := []) (lenOf pd__I_I rfl) rfl (by show 2 * 0 + _ ≤ _; exact Nat.le_of_eq rfl) (hb hby d3_1) (fun _ _ => ⟨rfl, e0, (by decide : 0 + 0 ≤ _), (by decide : 0 + 0 ≤ _)⟩)
  dsimp only [Pt.U, Pt.locs, Pt.cells, Pt.slots] at X1 l1 y1 z1 st1 hQ1
  subst l1 y1 z1
  obtain ⟨rfl, N1q, e1⟩ := hQ1
  have N1 := Fr.app N0 N1q
  refine OEnd.go (g' := (mkF m 4 #[.val (.int p0), .val (.int p1)] [(.int (f4 p0))])) st1 ?_
  by_cases hc2 : (f4 p0) = (0 : Int32)
  · skip
    refine OEnd.go (T' := T1) (g' := (mkF m 7 #[.val (.int p0), .val (.int p1)] [])) (fun t k => ?_) ?_
    · show Steps p.tables e below (T1.setTop (mkF m 4 #[.val (.int p0), .val (.int p1)] [(.int (f4 p0))])) t
      refine XS.ifNo X1.here hx rfl (hb hby d3_4) rfl ((if0 _ _).trans (teq (hc2)).2) ?_
      show Steps p.tables e below (T1.setTop (mkF m 7 #[.val (.int p0), .val (.int p1)] [])) t
      exact k
    refine OEnd.go (T' := T1) (g' := (mkF m 8 #[.val (.int p0), .val (.int p1)] [(.int p1)])) (fun t k => ?_) ?_
    · show Steps p.tables e below (T1.setTop (mkF m 7 #[.val (.int p0), .val (.int p1)] [])) t
      refine XS.iloadN X1.here hx rfl (hb hby d3_7) rfl ?_
      show Steps p.tables e below (T1.setTop (mkF m 8 #[.val (.int p0), .val (.int p1)] [(.int p1)])) t
      exact k
    exact OEnd.int X1 hx Bd.returns hlk (hb hby d3_8) ⟨(congrArg (fun z => some (Value.int z)) (own_symm (if_pos hc2))), N1, e1⟩ (by decide) (by decide)
  · skip
    refine OEnd.go (T' := T1) (g' := (mkF m 9 #[.val (.int p0), .val (.int p1)] [])) (fun t k => ?_) ?_
    · show Steps p.tables e below (T1.setTop (mkF m 4 #[.val (.int p0), .val (.int p1)] [(.int (f4 p0))])) t
      refine XS.ifYes X1.here hx rfl (pc0 := 4) (pc' := 9) rfl (hb hby d3_4) rfl ((if0 _ _).trans (feq (hc2)).2) (by decide) (by decide) ?_
      show Steps p.tables e below (T1.setTop (mkF m 9 #[.val (.int p0), .val (.int p1)] [])) t
      exact k
    refine OEnd.go (T' := T1) (g' := (mkF m 10 #[.val (.int p0), .val (.int p1)] [(.int p1)])) (fun t k => ?_) ?_
    · show Steps p.tables e below (T1.setTop (mkF m 9 #[.val (.int p0), .val (.int p1)] [])) t
      refine XS.iloadN X1.here hx rfl (hb hby d3_9) rfl ?_
      show Steps p.tables e below (T1.setTop (mkF m 10 #[.val (.int p0), .val (.int p1)] [(.int p1)])) t
      exact k
    obtain ⟨_, _, ⟨T3, L3, k3, n3⟩, -, X3, ⟨Lc3, hQ3, l3, y3, z3⟩, st3⟩ := Jvm.LawKit.callS X1 hx (y := (⟨"com/example/induce/induce/learn/IncidenceJoinedPinLaw", "size", "(I)I"⟩ : MethodName)) hown (mvT hZ (hw _ (List.mem_of_getElem? (i := 12) rfl))) (mvT hZ (hw _ (List.mem_of_getElem? (i := 13) rfl))) (mvT hZ (hw _ (List.mem_of_getElem? (i := 3) rfl))) (mvT hZ (hw _ (List.mem_of_getElem? (i := 14) rfl))) (by decide) (backOf (W := 0) (rm4 l Z a0 hw [] p1 h0 n0 Z0 ) hZ (hw _ (List.mem_of_getElem? (i := 14) rfl)) (hw _ (List.mem_of_getElem? (i := 3) rfl)) (by decide) (by decide)) (g := (mkF m 10 #[.val (.int p0), .val (.int p1)] [(.int p1)])) rfl (by rw [hml]; rfl) (argsL := [(.int p1)]) (rest := []) (lenOf pd__I_I rfl) rfl (by show 2 * 0 + _ ≤ _; exact Nat.le_of_eq rfl) (hb hby d3_10) (fun _ _ => ⟨rfl, e1, (by decide : 0 + 0 ≤ _), (by decide : 0 + 0 ≤ _)⟩)
    dsimp only [Pt.U, Pt.locs, Pt.cells, Pt.slots] at X3 l3 y3 z3 st3 hQ3
    subst l3 y3 z3
    obtain ⟨rfl, N3q, e3⟩ := hQ3
    have N3 := Fr.app N1 N3q
    refine OEnd.go (g' := (mkF m 13 #[.val (.int p0), .val (.int p1)] [(.int (f4 p1))])) st3 ?_
    by_cases hc4 : (f4 p1) = (0 : Int32)
    · skip
      refine OEnd.go (T' := T3) (g' := (mkF m 16 #[.val (.int p0), .val (.int p1)] [])) (fun t k => ?_) ?_
      · show Steps p.tables e below (T3.setTop (mkF m 13 #[.val (.int p0), .val (.int p1)] [(.int (f4 p1))])) t
        refine XS.ifNo X3.here hx rfl (hb hby d3_13) rfl ((if0 _ _).trans (teq (hc4)).2) ?_
        show Steps p.tables e below (T3.setTop (mkF m 16 #[.val (.int p0), .val (.int p1)] [])) t
        exact k
      refine OEnd.go (T' := T3) (g' := (mkF m 17 #[.val (.int p0), .val (.int p1)] [(.int p0)])) (fun t k => ?_) ?_
      · show Steps p.tables e below (T3.setTop (mkF m 16 #[.val (.int p0), .val (.int p1)] [])) t
        refine XS.iloadN X3.here hx rfl (hb hby d3_16) rfl ?_
        show Steps p.tables e below (T3.setTop (mkF m 17 #[.val (.int p0), .val (.int p1)] [(.int p0)])) t
        exact k
      exact OEnd.int X3 hx Bd.returns hlk (hb hby d3_17) ⟨(congrArg (fun z => some (Value.int z)) (own_symm ((if_neg hc2).trans (if_pos hc4)))), N3, e3⟩ (by decide) (by decide)
    · skip
      refine OEnd.go (T' := T3) (g' := (mkF m 18 #[.val (.int p0), .val (.int p1)] [])) (fun t k => ?_) ?_
      · show Steps p.tables e below (T3.setTop (mkF m 13 #[.val (.int p0), .val (.int p1)] [(.int (f4 p1))])) t
        refine XS.ifYes X3.here hx rfl (pc0 := 13) (pc' := 18) rfl (hb hby d3_13) rfl ((if0 _ _).trans (feq (hc4)).2) (by decide) (by decide) ?_
        show Steps p.tables e below (T3.setTop (mkF m 18 #[.val (.int p0), .val (.int p1)] [])) t
        exact k
      refine OEnd.go (T' := T3) (g' := (mkF m 19 #[.val (.int p0), .val (.int p1)] [(.int p0)])) (fun t k => ?_) ?_
      · show Steps p.tables e below (T3.setTop (mkF m 18 #[.val (.int p0), .val (.int p1)] [])) t
        refine XS.iloadN X3.here hx rfl (hb hby d3_18) rfl ?_
        show Steps p.tables e below (T3.setTop (mkF m 19 #[.val (.int p0), .val (.int p1)] [(.int p0)])) t
        exact k
      obtain ⟨_, _, ⟨T5, L5, k5, n5⟩, -, X5, ⟨Lc5, hQ5, l5, y5, z5⟩, st5⟩ := Jvm.LawKit.callS X3 hx (y := (⟨"com/example/induce/induce/learn/IncidenceJoinedPinLaw", "size", "(I)I"⟩ : MethodName)) hown (mvT hZ (hw _ (List.mem_of_getElem? (i := 12) rfl))) (mvT hZ (hw _ (List.mem_of_getElem? (i := 13) rfl))) (mvT hZ (hw _ (List.mem_of_getElem? (i := 3) rfl))) (mvT hZ (hw _ (List.mem_of_getElem? (i := 14) rfl))) (by decide) (backOf (W := 0) (rm4 l Z a0 hw [] p0 h0 n0 Z0 ) hZ (hw _ (List.mem_of_getElem? (i := 14) rfl)) (hw _ (List.mem_of_getElem? (i := 3) rfl)) (by decide) (by decide)) (g := (mkF m 19 #[.val (.int p0), .val (.int p1)] [(.int p0)])) rfl (by rw [hml]; rfl) (argsL := [(.int p0)]) (rest := []) (lenOf pd__I_I rfl) rfl (by show 2 * 0 + _ ≤ _; exact Nat.le_of_eq rfl) (hb hby d3_19) (fun _ _ => ⟨rfl, e3, (by decide : 0 + 0 ≤ _), (by decide : 0 + 0 ≤ _)⟩)
      dsimp only [Pt.U, Pt.locs, Pt.cells, Pt.slots] at X5 l5 y5 z5 st5 hQ5
      subst l5 y5 z5
      obtain ⟨rfl, N5q, e5⟩ := hQ5
      have N5 := Fr.app N3 N5q
      refine OEnd.go (g' := (mkF m 22 #[.val (.int p0), .val (.int p1)] [(.int (f4 p0))])) st5 ?_
      refine OEnd.go (T' := T5) (g' := (mkF m 23 #[.val (.int p0), .val (.int p1)] [(.int (1 : Int32)), (.int (f4 p0))])) (fun t k => ?_) ?_
      · show Steps p.tables e below (T5.setTop (mkF m 22 #[.val (.int p0), .val (.int p1)] [(.int (f4 p0))])) t
        refine XS.iconst X5.here hx rfl (hb hby d3_22) ?_
        show Steps p.tables e below (T5.setTop (mkF m 23 #[.val (.int p0), .val (.int p1)] [(.int (1 : Int32)), (.int (f4 p0))])) t
        exact k
      by_cases hc6 : (f4 p0) = (1 : Int32)
      · skip
        refine OEnd.go (T' := T5) (g' := (mkF m 26 #[.val (.int p0), .val (.int p1)] [])) (fun t k => ?_) ?_
        · show Steps p.tables e below (T5.setTop (mkF m 23 #[.val (.int p0), .val (.int p1)] [(.int (1 : Int32)), (.int (f4 p0))])) t
          refine XS.icmpNo X5.here hx rfl (hb hby d3_23) rfl (teq (hc6)).2 ?_
          show Steps p.tables e below (T5.setTop (mkF m 26 #[.val (.int p0), .val (.int p1)] [])) t
          exact k
        refine OEnd.go (T' := T5) (g' := (mkF m 27 #[.val (.int p0), .val (.int p1)] [(.int p1)])) (fun t k => ?_) ?_
        · show Steps p.tables e below (T5.setTop (mkF m 26 #[.val (.int p0), .val (.int p1)] [])) t
          refine XS.iloadN X5.here hx rfl (hb hby d3_26) rfl ?_
          show Steps p.tables e below (T5.setTop (mkF m 27 #[.val (.int p0), .val (.int p1)] [(.int p1)])) t
          exact k
        obtain ⟨_, _, ⟨T7, L7, k7, n7⟩, -, X7, ⟨Lc7, hQ7, l7, y7, z7⟩, st7⟩ := Jvm.LawKit.callS X5 hx (y := (⟨"com/example/induce/induce/learn/IncidenceJoinedPinLaw", "size", "(I)I"⟩ : MethodName)) hown (mvT hZ (hw _ (List.mem_of_getElem? (i := 12) rfl))) (mvT hZ (hw _ (List.mem_of_getElem? (i := 13) rfl))) (mvT hZ (hw _ (List.mem_of_getElem? (i := 3) rfl))) (mvT hZ (hw _ (List.mem_of_getElem? (i := 14) rfl))) (by decide) (backOf (W := 0) (rm4 l Z a0 hw [] p1 h0 n0 Z0 ) hZ (hw _ (List.mem_of_getElem? (i := 14) rfl)) (hw _ (List.mem_of_getElem? (i := 3) rfl)) (by decide) (by decide)) (g := (mkF m 27 #[.val (.int p0), .val (.int p1)] [(.int p1)])) rfl (by rw [hml]; rfl) (argsL := [(.int p1)]) (rest := []) (lenOf pd__I_I rfl) rfl (by show 2 * 0 + _ ≤ _; exact Nat.le_of_eq rfl) (hb hby d3_27) (fun _ _ => ⟨rfl, e5, (by decide : 0 + 0 ≤ _), (by decide : 0 + 0 ≤ _)⟩)
        dsimp only [Pt.U, Pt.locs, Pt.cells, Pt.slots] at X7 l7 y7 z7 st7 hQ7
        subst l7 y7 z7
        obtain ⟨rfl, N7q, e7⟩ := hQ7
        have N7 := Fr.app N5 N7q
        refine OEnd.go (g' := (mkF m 30 #[.val (.int p0), .val (.int p1)] [(.int (f4 p1))])) st7 ?_
        refine OEnd.go (T' := T7) (g' := (mkF m 31 #[.val (.int p0), .val (.int p1)] [(.int (1 : Int32)), (.int (f4 p1))])) (fun t k => ?_) ?_
        · show Steps p.tables e below (T7.setTop (mkF m 30 #[.val (.int p0), .val (.int p1)] [(.int (f4 p1))])) t
          refine XS.iconst X7.here hx rfl (hb hby d3_30) ?_
          show Steps p.tables e below (T7.setTop (mkF m 31 #[.val (.int p0), .val (.int p1)] [(.int (1 : Int32)), (.int (f4 p1))])) t
          exact k
        by_cases hc8 : (f4 p1) = (1 : Int32)
        · skip
          refine OEnd.go (T' := T7) (g' := (mkF m 34 #[.val (.int p0), .val (.int p1)] [])) (fun t k => ?_) ?_
          · show Steps p.tables e below (T7.setTop (mkF m 31 #[.val (.int p0), .val (.int p1)] [(.int (1 : Int32)), (.int (f4 p1))])) t
            refine XS.icmpNo X7.here hx rfl (hb hby d3_31) rfl (teq (hc8)).2 ?_
            show Steps p.tables e below (T7.setTop (mkF m 34 #[.val (.int p0), .val (.int p1)] [])) t
            exact k
          refine OEnd.go (T' := T7) (g' := (mkF m 36 #[.val (.int p0), .val (.int p1)] [(.int p1), (.int p0)])) (fun t k => ?_) ?_
          · show Steps p.tables e below (T7.setTop (mkF m 34 #[.val (.int p0), .val (.int p1)] [])) t
            refine XS.iloadN X7.here hx rfl (hb hby d3_34) rfl ?_
            show Steps p.tables e below (T7.setTop (mkF m 35 #[.val (.int p0), .val (.int p1)] [(.int p0)])) t
            refine XS.iloadN X7.here hx rfl (hb hby d3_35) rfl ?_
            show Steps p.tables e below (T7.setTop (mkF m 36 #[.val (.int p0), .val (.int p1)] [(.int p1), (.int p0)])) t
            exact k
          by_cases hc9 : p0 = p1
          · skip
            refine OEnd.go (T' := T7) (g' := (mkF m 39 #[.val (.int p0), .val (.int p1)] [])) (fun t k => ?_) ?_
            · show Steps p.tables e below (T7.setTop (mkF m 36 #[.val (.int p0), .val (.int p1)] [(.int p1), (.int p0)])) t
              refine XS.icmpNo X7.here hx rfl (hb hby d3_36) rfl (teq (hc9)).2 ?_
              show Steps p.tables e below (T7.setTop (mkF m 39 #[.val (.int p0), .val (.int p1)] [])) t
              exact k
            refine OEnd.go (T' := T7) (g' := (mkF m 40 #[.val (.int p0), .val (.int p1)] [(.int p0)])) (fun t k => ?_) ?_
            · show Steps p.tables e below (T7.setTop (mkF m 39 #[.val (.int p0), .val (.int p1)] [])) t
              refine XS.iloadN X7.here hx rfl (hb hby d3_39) rfl ?_
              show Steps p.tables e below (T7.setTop (mkF m 40 #[.val (.int p0), .val (.int p1)] [(.int p0)])) t
              exact k
            exact OEnd.int X7 hx Bd.returns hlk (hb hby d3_40) ⟨(congrArg (fun z => some (Value.int z)) (own_symm ((if_neg hc2).trans ((if_neg hc4).trans ((if_pos hc6).trans ((if_pos hc8).trans (if_pos hc9))))))), N7, e7⟩ (by decide) (by decide)
          · skip
            refine OEnd.go (T' := T7) (g' := (mkF m 41 #[.val (.int p0), .val (.int p1)] [])) (fun t k => ?_) ?_
            · show Steps p.tables e below (T7.setTop (mkF m 36 #[.val (.int p0), .val (.int p1)] [(.int p1), (.int p0)])) t
              refine XS.icmpYes X7.here hx rfl (pc0 := 36) (pc' := 41) rfl (hb hby d3_36) rfl (feq (hc9)).2 (by decide) (by decide) ?_
              show Steps p.tables e below (T7.setTop (mkF m 41 #[.val (.int p0), .val (.int p1)] [])) t
              exact k
            refine OEnd.go (T' := T7) (g' := (mkF m 43 #[.val (.int p0), .val (.int p1)] [(.int (-2 : Int32))])) (fun t k => ?_) ?_
            · show Steps p.tables e below (T7.setTop (mkF m 41 #[.val (.int p0), .val (.int p1)] [])) t
              refine XS.bipush X7.here hx rfl (hb hby d3_41) ?_
              show Steps p.tables e below (T7.setTop (mkF m 43 #[.val (.int p0), .val (.int p1)] [(.int (-2 : Int32))])) t
              exact k
            exact OEnd.int X7 hx Bd.returns hlk (hb hby d3_43) ⟨(congrArg (fun z => some (Value.int z)) (own_symm ((if_neg hc2).trans ((if_neg hc4).trans ((if_pos hc6).trans ((if_pos hc8).trans (if_neg hc9))))))), N7, e7⟩ (by decide) (by decide)
        · skip
          refine OEnd.go (T' := T7) (g' := (mkF m 41 #[.val (.int p0), .val (.int p1)] [])) (fun t k => ?_) ?_
          · show Steps p.tables e below (T7.setTop (mkF m 31 #[.val (.int p0), .val (.int p1)] [(.int (1 : Int32)), (.int (f4 p1))])) t
            refine XS.icmpYes X7.here hx rfl (pc0 := 31) (pc' := 41) rfl (hb hby d3_31) rfl (feq (hc8)).2 (by decide) (by decide) ?_
            show Steps p.tables e below (T7.setTop (mkF m 41 #[.val (.int p0), .val (.int p1)] [])) t
            exact k
          refine OEnd.go (T' := T7) (g' := (mkF m 43 #[.val (.int p0), .val (.int p1)] [(.int (-2 : Int32))])) (fun t k => ?_) ?_
          · show Steps p.tables e below (T7.setTop (mkF m 41 #[.val (.int p0), .val (.int p1)] [])) t
            refine XS.bipush X7.here hx rfl (hb hby d3_41) ?_
            show Steps p.tables e below (T7.setTop (mkF m 43 #[.val (.int p0), .val (.int p1)] [(.int (-2 : Int32))])) t
            exact k
          exact OEnd.int X7 hx Bd.returns hlk (hb hby d3_43) ⟨(congrArg (fun z => some (Value.int z)) (own_symm ((if_neg hc2).trans ((if_neg hc4).trans ((if_pos hc6).trans (if_neg hc8)))))), N7, e7⟩ (by decide) (by decide)
      · skip
        refine OEnd.go (T' := T5) (g' := (mkF m 41 #[.val (.int p0), .val (.int p1)] [])) (fun t k => ?_) ?_
        · show Steps p.tables e below (T5.setTop (mkF m 23 #[.val (.int p0), .val (.int p1)] [(.int (1 : Int32)), (.int (f4 p0))])) t
          refine XS.icmpYes X5.here hx rfl (pc0 := 23) (pc' := 41) rfl (hb hby d3_23) rfl (feq (hc6)).2 (by decide) (by decide) ?_
          show Steps p.tables e below (T5.setTop (mkF m 41 #[.val (.int p0), .val (.int p1)] [])) t
          exact k
        refine OEnd.go (T' := T5) (g' := (mkF m 43 #[.val (.int p0), .val (.int p1)] [(.int (-2 : Int32))])) (fun t k => ?_) ?_
        · show Steps p.tables e below (T5.setTop (mkF m 41 #[.val (.int p0), .val (.int p1)] [])) t
          refine XS.bipush X5.here hx rfl (hb hby d3_41) ?_
          show Steps p.tables e below (T5.setTop (mkF m 43 #[.val (.int p0), .val (.int p1)] [(.int (-2 : Int32))])) t
          exact k
        exact OEnd.int X5 hx Bd.returns hlk (hb hby d3_43) ⟨(congrArg (fun z => some (Value.int z)) (own_symm ((if_neg hc2).trans ((if_neg hc4).trans (if_neg hc6))))), N5, e5⟩ (by decide) (by decide)
theorem d5_0 : decode prog_37_method_2_code 0 = .ok (.iload_n 0, 1) := by decide +kernel
theorem d5_1 : decode prog_37_method_2_code 1 = .ok (.iconst (-1), 1) := by decide +kernel
theorem d5_2 : decode prog_37_method_2_code 2 = .ok (.if_icmp .eq 8, 3) := by decide +kernel
theorem d5_10 : decode prog_37_method_2_code 10 = .ok (.iload_n 1, 1) := by decide +kernel
theorem d5_11 : decode prog_37_method_2_code 11 = .ok (.goto 5, 3) := by decide +kernel
theorem d5_5 : decode prog_37_method_2_code 5 = .ok (.iload_n 0, 1) := by decide +kernel
theorem d5_6 : decode prog_37_method_2_code 6 = .ok (.iload_n 1, 1) := by decide +kernel
theorem d5_7 : decode prog_37_method_2_code 7 = .ok (.if_icmp .ne 7, 3) := by decide +kernel
theorem d5_14 : decode prog_37_method_2_code 14 = .ok (.bipush (-2), 2) := by decide +kernel
theorem d5_16 : decode prog_37_method_2_code 16 = .ok (.ireturn, 1) := by decide +kernel
def f5 (p0 : Int32) (p1 : Int32) : Int32 := (if p0 = (-1 : Int32) then p1 else (if p0 = p1 then p1 else (-2 : Int32)))
theorem ef_5 (m : MethodId) (x0 : Int32) (x1 : Int32) : entryFrame m #[(.int x0), (.int x1)] 2 = mkF m 0 #[.val (.int x0), .val (.int x1)] [] := by first | (simp [entryFrame, mkF, argsToLocals, Value.category]; done) | rfl
def Q5 (Z : State) (p0 : Int32) (p1 : Int32) (h0 : Heap) (n0 : Nat) (v : Option Value) (h : Heap) (L : List Loc) : Prop := v = some (.int (f5 p0 p1)) ∧ Fr n0 L ∧ h = h0
set_option maxRecDepth 65536 in
set_option maxHeartbeats 40000000 in
theorem rm5 (l : Launch) (Z : State) (a0 : Array Value) (hw : ∀ d ∈ tables_1, d.before a0 Z = true) (ws : List Jvm.Cond) (p0 : Int32) (p1 : Int32) (h0 : Heap) (n0 : Nat) (Z0 : n0 ≤ h0.size) :
    MetFree l (⟨"com/example/induce/induce/learn/Incidence", "seenIn", "(II)I"⟩ : MethodName) (head1 (Jvm.Cond.code (⟨"com/example/induce/induce/learn/Incidence", "seenIn", "(II)I"⟩ : MethodName) prog_37_method_2_code 2 (some .int) :: ws) ({ frames := 0, cells := 0, slots := 0, locals := 0 } : Room)) (fun a U => a = #[(.int p0), (.int p1)] ∧ Z.Warmed39 U.vm ∧ U.heap = h0) (fun _ _ _ _ _ => True) (fun _ U o U' => ∃ v L, o = .returned v ∧ Q5 Z p0 p1 h0 n0 v U'.heap L ∧ FrameEnd U o U' L ({ frames := 0, cells := 0, slots := 0, locals := 0 } : Room).cells ({ frames := 0, cells := 0, slots := 0, locals := 0 } : Room).slots) := by
  refine MetFree.of_bodySF (plainFor_of_name pn_com_example_induce_induce_learn_Incidence) hisR ?_
  intro p e s m args below meth c s₁ Bd hml0 hP hK
  obtain ⟨rfl, hZ, hh⟩ := hP
  have hx := Bd.exec
  have hby := Bd.bytes
  have hlk : meth.locks = false := BodyLoose.notSynchronized Bd
  have hml : c.maxLocals = 2 := hml0
  have hown : s.vm.findClass "com/example/induce/induce/learn/Incidence" = some m.cls := findClass_of_methodNamed Bd.named
  have hnm := (name_of_methodNamed Bd.named Bd.method).1
  have X0 : Stand p l e ({ frames := 0, cells := 0, slots := 0, locals := 0 } : Room) s m #[(.int p0), (.int p1)] below meth c s₁ [] 0 0 := Stand.of_body Bd
  have e0 : s₁.heap = h0 := by rw [← hh, Bd.state]; rfl
  have N0 := Fr.nil n0
  show OEnd p e below s s₁ (entryFrame m #[(.int p0), (.int p1)] 2) (Q5 Z p0 p1 h0 n0) ({ frames := 0, cells := 0, slots := 0, locals := 0 } : Room).cells ({ frames := 0, cells := 0, slots := 0, locals := 0 } : Room).slots
  refine OEnd.go (g' := (mkF m 0 #[.val (.int p0), .val (.int p1)] [])) (fun _ k => castTop (ef_5 m p0 p1) k) ?_
  refine OEnd.go (T' := s₁) (g' := (mkF m 2 #[.val (.int p0), .val (.int p1)] [(.int (-1 : Int32)), (.int p0)])) (fun t k => ?_) ?_
  · show Steps p.tables e below (s₁.setTop (mkF m 0 #[.val (.int p0), .val (.int p1)] [])) t
    refine XS.iloadN X0.here hx rfl (hb hby d5_0) rfl ?_
    show Steps p.tables e below (s₁.setTop (mkF m 1 #[.val (.int p0), .val (.int p1)] [(.int p0)])) t
    refine XS.iconst X0.here hx rfl (hb hby d5_1) ?_
    show Steps p.tables e below (s₁.setTop (mkF m 2 #[.val (.int p0), .val (.int p1)] [(.int (-1 : Int32)), (.int p0)])) t
    exact k
  refine OEnd.go (T' := s₁) (g' := (mkF m 16 #[.val (.int p0), .val (.int p1)] [(.int (if p0 = (-1 : Int32) then p1 else (if p0 = p1 then p1 else (-2 : Int32))))])) (fun t k => ?_) ?_
  · show Steps p.tables e below (s₁.setTop (mkF m 2 #[.val (.int p0), .val (.int p1)] [(.int (-1 : Int32)), (.int p0)])) t
    by_cases hc1 : p0 = (-1 : Int32)
    · skip
      refine XS.icmpYes X0.here hx rfl (pc0 := 2) (pc' := 10) rfl (hb hby d5_2) rfl (teq (hc1)).1 (by decide) (by decide) ?_
      show Steps p.tables e below (s₁.setTop (mkF m 10 #[.val (.int p0), .val (.int p1)] [])) t
      refine SGo.go (T' := s₁) (g' := (mkF m 16 #[.val (.int p0), .val (.int p1)] [(.int p1)])) (fun t k => ?_) ?_
      · show Steps p.tables e below (s₁.setTop (mkF m 10 #[.val (.int p0), .val (.int p1)] [])) t
        refine XS.iloadN X0.here hx rfl (hb hby d5_10) rfl ?_
        show Steps p.tables e below (s₁.setTop (mkF m 11 #[.val (.int p0), .val (.int p1)] [(.int p1)])) t
        refine XS.goto X0.here hx rfl (pc0 := 11) (pc' := 16) rfl (hb hby d5_11) (by decide) (by decide) ?_
        show Steps p.tables e below (s₁.setTop (mkF m 16 #[.val (.int p0), .val (.int p1)] [(.int p1)])) t
        exact k
      exact (own_k (f := fun (z : Int32) => mkF m 16 #[.val (.int p0), .val (.int p1)] [(.int z)]) (if_pos hc1) k)
    · skip
      refine XS.icmpNo X0.here hx rfl (hb hby d5_2) rfl (feq (hc1)).1 ?_
      show Steps p.tables e below (s₁.setTop (mkF m 5 #[.val (.int p0), .val (.int p1)] [])) t
      refine SGo.go (T' := s₁) (g' := (mkF m 7 #[.val (.int p0), .val (.int p1)] [(.int p1), (.int p0)])) (fun t k => ?_) ?_
      · show Steps p.tables e below (s₁.setTop (mkF m 5 #[.val (.int p0), .val (.int p1)] [])) t
        refine XS.iloadN X0.here hx rfl (hb hby d5_5) rfl ?_
        show Steps p.tables e below (s₁.setTop (mkF m 6 #[.val (.int p0), .val (.int p1)] [(.int p0)])) t
        refine XS.iloadN X0.here hx rfl (hb hby d5_6) rfl ?_
        show Steps p.tables e below (s₁.setTop (mkF m 7 #[.val (.int p0), .val (.int p1)] [(.int p1), (.int p0)])) t
        exact k
      by_cases hc2 : p0 = p1
      · skip
        refine XS.icmpNo X0.here hx rfl (hb hby d5_7) rfl (teq (hc2)).2 ?_
        show Steps p.tables e below (s₁.setTop (mkF m 10 #[.val (.int p0), .val (.int p1)] [])) t
        refine SGo.go (T' := s₁) (g' := (mkF m 16 #[.val (.int p0), .val (.int p1)] [(.int p1)])) (fun t k => ?_) ?_
        · show Steps p.tables e below (s₁.setTop (mkF m 10 #[.val (.int p0), .val (.int p1)] [])) t
          refine XS.iloadN X0.here hx rfl (hb hby d5_10) rfl ?_
          show Steps p.tables e below (s₁.setTop (mkF m 11 #[.val (.int p0), .val (.int p1)] [(.int p1)])) t
          refine XS.goto X0.here hx rfl (pc0 := 11) (pc' := 16) rfl (hb hby d5_11) (by decide) (by decide) ?_
          show Steps p.tables e below (s₁.setTop (mkF m 16 #[.val (.int p0), .val (.int p1)] [(.int p1)])) t
          exact k
        exact (own_k (f := fun (z : Int32) => mkF m 16 #[.val (.int p0), .val (.int p1)] [(.int z)]) ((if_neg hc1).trans (if_pos hc2)) k)
      · skip
        refine XS.icmpYes X0.here hx rfl (pc0 := 7) (pc' := 14) rfl (hb hby d5_7) rfl (feq (hc2)).2 (by decide) (by decide) ?_
        show Steps p.tables e below (s₁.setTop (mkF m 14 #[.val (.int p0), .val (.int p1)] [])) t
        refine SGo.go (T' := s₁) (g' := (mkF m 16 #[.val (.int p0), .val (.int p1)] [(.int (-2 : Int32))])) (fun t k => ?_) ?_
        · show Steps p.tables e below (s₁.setTop (mkF m 14 #[.val (.int p0), .val (.int p1)] [])) t
          refine XS.bipush X0.here hx rfl (hb hby d5_14) ?_
          show Steps p.tables e below (s₁.setTop (mkF m 16 #[.val (.int p0), .val (.int p1)] [(.int (-2 : Int32))])) t
          exact k
        exact (own_k (f := fun (z : Int32) => mkF m 16 #[.val (.int p0), .val (.int p1)] [(.int z)]) ((if_neg hc1).trans (if_neg hc2)) k)
  exact OEnd.int X0 hx Bd.returns hlk (hb hby d5_16) ⟨rfl, N0, e0⟩ (by decide) (by decide)
theorem pd__III_I : parseMethodDescriptor "(III)I" = some ⟨[.int, .int, .int], some .int⟩ := by decide +kernel
theorem pd__II_I : parseMethodDescriptor "(II)I" = some ⟨[.int, .int], some .int⟩ := by decide +kernel
def v0_18 (p0 : Int32) (p1 : Int32) (p2 : Int32) : Int32 := (f1 p2 (p0 &&& (2147483647 : Int32)) (p1 &&& (2147483647 : Int32)))
def v0_29 (p0 : Int32) (p1 : Int32) (p2 : Int32) : Int32 := (f1 ((p2.toUInt32 >>> ((2 : Int32) &&& 31).toUInt32).toInt32) (p0 &&& (2147483647 : Int32)) (p1 &&& (2147483647 : Int32)))
def v0_40 (p0 : Int32) (p1 : Int32) (p2 : Int32) : Int32 := (f1 ((p2.toUInt32 >>> ((4 : Int32) &&& 31).toUInt32).toInt32) (p0 &&& (2147483647 : Int32)) (p1 &&& (2147483647 : Int32)))
def v0_49 (p0 : Int32) (p1 : Int32) (p2 : Int32) : Int32 := (f2 (v0_18 p0 p1 p2) (v0_29 p0 p1 p2))
def v0_68 (p0 : Int32) (p1 : Int32) (p2 : Int32) : Int32 := (if (v0_49 p0 p1 p2) = (f3 (v0_18 p0 p1 p2) (v0_29 p0 p1 p2)) then (1 : Int32) else (0 : Int32))
def v0_87 (p0 : Int32) (p1 : Int32) (p2 : Int32) : Int32 := (if (v0_49 p0 p1 p2) = (f2 (v0_29 p0 p1 p2) (v0_18 p0 p1 p2)) then (1 : Int32) else (0 : Int32))
def v0_116 (p0 : Int32) (p1 : Int32) (p2 : Int32) : Int32 := (if (f2 (v0_49 p0 p1 p2) (v0_40 p0 p1 p2)) = (f2 (v0_18 p0 p1 p2) (f2 (v0_29 p0 p1 p2) (v0_40 p0 p1 p2))) then (1 : Int32) else (0 : Int32))
def v0_140 (p0 : Int32) (p1 : Int32) (p2 : Int32) : Int32 := (if (f2 (v0_18 p0 p1 p2) (p1 &&& (2147483647 : Int32))) = (f5 (v0_18 p0 p1 p2) (p1 &&& (2147483647 : Int32))) then (1 : Int32) else (0 : Int32))
def la0_0 (p0 : Int32) (p1 : Int32) (p2 : Int32) : Array Slot := #[.val (.int p0), .val (.int p1), .val (.int p2), .val (.int (p0 &&& (2147483647 : Int32))), .unset, .unset, .unset, .unset, .unset, .unset, .unset, .unset, .unset]
def la0_1 (p0 : Int32) (p1 : Int32) (p2 : Int32) : Array Slot := #[.val (.int p0), .val (.int p1), .val (.int p2), .val (.int (p0 &&& (2147483647 : Int32))), .val (.int (p1 &&& (2147483647 : Int32))), .unset, .unset, .unset, .unset, .unset, .unset, .unset, .unset]
def la0_2 (p0 : Int32) (p1 : Int32) (p2 : Int32) : Array Slot := #[.val (.int p0), .val (.int p1), .val (.int p2), .val (.int (p0 &&& (2147483647 : Int32))), .val (.int (p1 &&& (2147483647 : Int32))), .val (.int (v0_18 p0 p1 p2)), .unset, .unset, .unset, .unset, .unset, .unset, .unset]
def la0_3 (p0 : Int32) (p1 : Int32) (p2 : Int32) : Array Slot := #[.val (.int p0), .val (.int p1), .val (.int p2), .val (.int (p0 &&& (2147483647 : Int32))), .val (.int (p1 &&& (2147483647 : Int32))), .val (.int (v0_18 p0 p1 p2)), .val (.int (v0_29 p0 p1 p2)), .unset, .unset, .unset, .unset, .unset, .unset]
def la0_4 (p0 : Int32) (p1 : Int32) (p2 : Int32) : Array Slot := #[.val (.int p0), .val (.int p1), .val (.int p2), .val (.int (p0 &&& (2147483647 : Int32))), .val (.int (p1 &&& (2147483647 : Int32))), .val (.int (v0_18 p0 p1 p2)), .val (.int (v0_29 p0 p1 p2)), .val (.int (v0_40 p0 p1 p2)), .unset, .unset, .unset, .unset, .unset]
def la0_5 (p0 : Int32) (p1 : Int32) (p2 : Int32) : Array Slot := #[.val (.int p0), .val (.int p1), .val (.int p2), .val (.int (p0 &&& (2147483647 : Int32))), .val (.int (p1 &&& (2147483647 : Int32))), .val (.int (v0_18 p0 p1 p2)), .val (.int (v0_29 p0 p1 p2)), .val (.int (v0_40 p0 p1 p2)), .val (.int (v0_49 p0 p1 p2)), .unset, .unset, .unset, .unset]
def la0_6 (p0 : Int32) (p1 : Int32) (p2 : Int32) : Array Slot := #[.val (.int p0), .val (.int p1), .val (.int p2), .val (.int (p0 &&& (2147483647 : Int32))), .val (.int (p1 &&& (2147483647 : Int32))), .val (.int (v0_18 p0 p1 p2)), .val (.int (v0_29 p0 p1 p2)), .val (.int (v0_40 p0 p1 p2)), .val (.int (v0_49 p0 p1 p2)), .val (.int (v0_68 p0 p1 p2)), .unset, .unset, .unset]
def la0_7 (p0 : Int32) (p1 : Int32) (p2 : Int32) : Array Slot := #[.val (.int p0), .val (.int p1), .val (.int p2), .val (.int (p0 &&& (2147483647 : Int32))), .val (.int (p1 &&& (2147483647 : Int32))), .val (.int (v0_18 p0 p1 p2)), .val (.int (v0_29 p0 p1 p2)), .val (.int (v0_40 p0 p1 p2)), .val (.int (v0_49 p0 p1 p2)), .val (.int (v0_68 p0 p1 p2)), .val (.int (v0_87 p0 p1 p2)), .unset, .unset]
def la0_8 (p0 : Int32) (p1 : Int32) (p2 : Int32) : Array Slot := #[.val (.int p0), .val (.int p1), .val (.int p2), .val (.int (p0 &&& (2147483647 : Int32))), .val (.int (p1 &&& (2147483647 : Int32))), .val (.int (v0_18 p0 p1 p2)), .val (.int (v0_29 p0 p1 p2)), .val (.int (v0_40 p0 p1 p2)), .val (.int (v0_49 p0 p1 p2)), .val (.int (v0_68 p0 p1 p2)), .val (.int (v0_87 p0 p1 p2)), .val (.int (v0_116 p0 p1 p2)), .unset]
def la0_9 (p0 : Int32) (p1 : Int32) (p2 : Int32) : Array Slot := #[.val (.int p0), .val (.int p1), .val (.int p2), .val (.int (p0 &&& (2147483647 : Int32))), .val (.int (p1 &&& (2147483647 : Int32))), .val (.int (v0_18 p0 p1 p2)), .val (.int (v0_29 p0 p1 p2)), .val (.int (v0_40 p0 p1 p2)), .val (.int (v0_49 p0 p1 p2)), .val (.int (v0_68 p0 p1 p2)), .val (.int (v0_87 p0 p1 p2)), .val (.int (v0_116 p0 p1 p2)), .val (.int (v0_140 p0 p1 p2))]
def f0 (p0 : Int32) (p1 : Int32) (p2 : Int32) : Int32 := (if (v0_68 p0 p1 p2) = (0 : Int32) then (0 : Int32) else (if (v0_87 p0 p1 p2) = (0 : Int32) then (0 : Int32) else (if (v0_116 p0 p1 p2) = (0 : Int32) then (0 : Int32) else (if (v0_140 p0 p1 p2) = (0 : Int32) then (0 : Int32) else (1 : Int32)))))
theorem own_ref (a b : Int32) : f2 a b = f3 a b := by
  have n1 : ¬ ((0 : Int32) = 1) := by decide
  have n2 : ¬ ((2 : Int32) = 0) := by decide
  have n3 : ¬ ((2 : Int32) = 1) := by decide
  have n4 : ¬ ((1 : Int32) = 0) := by decide
  have n5 : ¬ ((-2 : Int32) = -1) := by decide
  unfold f2 v2_28_2 f3 f4
  by_cases h1 : a = -1
  · simp only [h1, if_true]
  · by_cases h2 : b = -1
    · simp only [h1, h2, if_true, if_false]
      by_cases h3 : a = -2 <;> simp only [h3, n2, n4, if_true, if_false]
    · by_cases h3 : a = -2
      · by_cases h4 : b = -2
        · simp only [h3, h4, n5, n2, n3, if_true, if_false]
        · simp only [h1, h2, h3, h4, n5, n2, n3, n4, if_true, if_false]
      · by_cases h4 : b = -2
        · have h5 : ¬ (-2 = a) := fun q => h3 q.symm
          simp only [h1, h2, h3, h4, h5, n5, n2, n3, n4, if_true, if_false]
        · by_cases h5 : a = b
          · simp only [h5, h2, h4, n4, if_true, if_false]
          · have h6 : ¬ (b = a) := fun q => h5 q.symm
            simp only [h1, h2, h3, h4, h5, h6, n4, if_true, if_false]
theorem own_comm (a b : Int32) : f2 a b = f2 b a := by
  unfold f2 v2_28_2
  by_cases h1 : a = -1
  · by_cases h2 : b = -1
    · simp only [h1, h2, if_true]
    · simp only [h1, h2, if_true, if_false]
  · by_cases h2 : b = -1
    · simp only [h1, h2, if_true, if_false]
    · by_cases h3 : a = b
      · simp only [h3]
      · have h4 : ¬ (b = a) := fun q => h3 q.symm
        simp only [h1, h2, h3, h4, if_false]
theorem own_none (a : Int32) : f2 (-1) a = a := by unfold f2 v2_28_2; rw [if_pos rfl]
theorem own_none' (a : Int32) : f2 a (-1) = a := by rw [own_comm]; exact own_none a
theorem own_self (a : Int32) : f2 a a = a := by
  unfold f2 v2_28_2
  by_cases h : a = -1
  · rw [if_pos h]
  · rw [if_neg h, if_neg h, if_pos rfl]
theorem own_two (a : Int32) : f2 (-2) a = -2 := by
  unfold f2 v2_28_2
  have n5 : ¬ ((-2 : Int32) = -1) := by decide
  rw [if_neg n5]
  by_cases h : a = -1
  · rw [if_pos h]
  · rw [if_neg h]
    by_cases h2 : a = -2
    · rw [if_pos h2]
    · rw [if_neg h2]
theorem own_two' (a : Int32) : f2 a (-2) = -2 := by rw [own_comm]; exact own_two a
theorem own_unlike {a b : Int32} (h1 : a ≠ -1) (h2 : b ≠ -1) (h3 : a ≠ b) : f2 a b = -2 := by
  unfold f2 v2_28_2
  rw [if_neg h1, if_neg h2, if_neg (fun q => h3 q.symm)]
theorem own_assoc (a b c : Int32) : f2 (f2 a b) c = f2 a (f2 b c) := by
  by_cases a1 : a = -1
  · subst a1; rw [own_none, own_none]
  by_cases b1 : b = -1
  · subst b1; rw [own_none', own_none]
  by_cases c1 : c = -1
  · subst c1; rw [own_none', own_none']
  by_cases h1 : a = b
  · subst h1
    rw [own_self]
    by_cases h2 : a = c
    · subst h2; rw [own_self, own_self]
    · rw [own_unlike a1 c1 h2, own_two']
  · rw [own_unlike a1 b1 h1, own_two]
    by_cases h2 : b = c
    · subst h2; rw [own_self, own_unlike a1 b1 h1]
    · rw [own_unlike b1 c1 h2, own_two']
theorem own_seen {a e : Int32} (h : e ≠ -1) : f2 a e = f5 a e := by
  unfold f2 v2_28_2 f5
  by_cases h1 : a = -1
  · rw [if_pos h1, if_pos h1]
  · rw [if_neg h1, if_neg h1, if_neg h]
    by_cases h2 : a = e
    · rw [if_pos h2.symm, if_pos h2, h2]
    · rw [if_neg h2, if_neg (fun q => h2 q.symm)]
theorem own_e (y : Int32) : (y &&& (2147483647 : Int32)) ≠ -1 := by
  intro h
  have h1 := c_mask y 2147483647 31 (by decide) (by decide)
  have e : (-1 : Int32).toInt = -1 := by decide
  rw [h, e] at h1
  omega
theorem own_plain (x y z : Int32) : f0 x y z = 1 := by
  have n4 : ¬ ((1 : Int32) = 0) := by decide
  have h1 : v0_68 x y z = 1 := by unfold v0_68 v0_49; rw [if_pos (own_ref _ _)]
  have h2 : v0_87 x y z = 1 := by unfold v0_87 v0_49; rw [if_pos (own_comm _ _)]
  have h3 : v0_116 x y z = 1 := by unfold v0_116 v0_49; rw [if_pos (own_assoc _ _ _)]
  have h4 : v0_140 x y z = 1 := by unfold v0_140; rw [if_pos (own_seen (own_e y))]
  unfold f0
  rw [h1, h2, h3, h4, if_neg n4, if_neg n4, if_neg n4, if_neg n4]
theorem ef_0 (m : MethodId) (x0 : Int32) (x1 : Int32) (x2 : Int32) : entryFrame m #[(.int x0), (.int x1), (.int x2)] maxLocals = mkF m 0 #[.val (.int x0), .val (.int x1), .val (.int x2), .unset, .unset, .unset, .unset, .unset, .unset, .unset, .unset, .unset, .unset] [] := by first | (simp [entryFrame, mkF, argsToLocals, Value.category, maxLocals]; done) | rfl
def Q0 (Z : State) (p0 : Int32) (p1 : Int32) (p2 : Int32) (h0 : Heap) (n0 : Nat) (v : Option Value) (h : Heap) (L : List Loc) : Prop := v = some (.int 1) ∧ Fr n0 L
set_option maxRecDepth 65536 in
set_option maxHeartbeats 40000000 in
theorem rm0 (l : Launch) (Z : State) (a0 : Array Value) (hw : ∀ d ∈ tables_1, d.before a0 Z = true) (ws : List Jvm.Cond) (p0 : Int32) (p1 : Int32) (p2 : Int32) (h0 : Heap) (n0 : Nat) (Z0 : n0 ≤ h0.size) :
    MetFree l x (head1 (Jvm.Cond.code x code maxLocals ret :: ws) room_1) (fun a U => a = #[(.int p0), (.int p1), (.int p2)] ∧ Z.Warmed39 U.vm ∧ U.heap = h0) (fun _ _ _ _ _ => True) (fun _ U o U' => ∃ v L, o = .returned v ∧ Q0 Z p0 p1 p2 h0 n0 v U'.heap L ∧ FrameEnd U o U' L room_1.cells room_1.slots) := by
  refine MetFree.of_bodySF (plainFor_of_name pn_com_example_induce_induce_learn_IncidenceJoinedPinLaw) hisR ?_
  intro p e s m args below meth c s₁ Bd hml0 hP hK
  obtain ⟨rfl, hZ, hh⟩ := hP
  have hx := Bd.exec
  have hby := Bd.bytes
  have hlk : meth.locks = false := BodyLoose.notSynchronized Bd
  have hml : c.maxLocals = 13 := hml0
  have hown : s.vm.findClass "com/example/induce/induce/learn/IncidenceJoinedPinLaw" = some m.cls := findClass_of_methodNamed Bd.named
  have hnm := (name_of_methodNamed Bd.named Bd.method).1
  have X0 : Stand p l e room_1 s m #[(.int p0), (.int p1), (.int p2)] below meth c s₁ [] 0 0 := Stand.of_body Bd
  have e0 : s₁.heap = h0 := by rw [← hh, Bd.state]; rfl
  have N0 := Fr.nil n0
  show OEnd p e below s s₁ (entryFrame m #[(.int p0), (.int p1), (.int p2)] maxLocals) (Q0 Z p0 p1 p2 h0 n0) room_1.cells room_1.slots
  refine OEnd.go (g' := (mkF m 0 #[.val (.int p0), .val (.int p1), .val (.int p2), .unset, .unset, .unset, .unset, .unset, .unset, .unset, .unset, .unset, .unset] [])) (fun _ k => castTop (ef_0 m p0 p1 p2) k) ?_
  refine OEnd.go (T' := s₁) (g' := (mkF m 15 (la0_1 p0 p1 p2) [(.int (p1 &&& (2147483647 : Int32))), (.int (p0 &&& (2147483647 : Int32))), (.int p2)])) (fun t k => ?_) ?_
  · show Steps p.tables e below (s₁.setTop (mkF m 0 #[.val (.int p0), .val (.int p1), .val (.int p2), .unset, .unset, .unset, .unset, .unset, .unset, .unset, .unset, .unset, .unset] [])) t
    refine XS.iloadN X0.here hx rfl (hb hby at_0) rfl ?_
    show Steps p.tables e below (s₁.setTop (mkF m 1 #[.val (.int p0), .val (.int p1), .val (.int p2), .unset, .unset, .unset, .unset, .unset, .unset, .unset, .unset, .unset, .unset] [(.int p0)])) t
    refine X0.ldcInt hx hown (mvT hZ (hw _ (List.mem_of_getElem? (i := 0) rfl))) (g := (mkF m 1 #[.val (.int p0), .val (.int p1), .val (.int p2), .unset, .unset, .unset, .unset, .unset, .unset, .unset, .unset, .unset, .unset] [(.int p0)])) rfl (hb hby at_1) _ ?_
    show Steps p.tables e below (s₁.setTop (mkF m 3 #[.val (.int p0), .val (.int p1), .val (.int p2), .unset, .unset, .unset, .unset, .unset, .unset, .unset, .unset, .unset, .unset] [(.int (2147483647 : Int32)), (.int p0)])) t
    refine XS.iand X0.here hx rfl (hb hby at_3) rfl ?_
    show Steps p.tables e below (s₁.setTop (mkF m 4 #[.val (.int p0), .val (.int p1), .val (.int p2), .unset, .unset, .unset, .unset, .unset, .unset, .unset, .unset, .unset, .unset] [(.int (p0 &&& (2147483647 : Int32)))])) t
    refine XS.istoreN X0.here hx rfl (hb hby at_4) rfl (l' := (la0_0 p0 p1 p2)) rfl ?_
    show Steps p.tables e below (s₁.setTop (mkF m 5 (la0_0 p0 p1 p2) [])) t
    refine XS.iloadN X0.here hx rfl (hb hby at_5) rfl ?_
    show Steps p.tables e below (s₁.setTop (mkF m 6 (la0_0 p0 p1 p2) [(.int p1)])) t
    refine X0.ldcInt hx hown (mvT hZ (hw _ (List.mem_of_getElem? (i := 0) rfl))) (g := (mkF m 6 (la0_0 p0 p1 p2) [(.int p1)])) rfl (hb hby at_6) _ ?_
    show Steps p.tables e below (s₁.setTop (mkF m 8 (la0_0 p0 p1 p2) [(.int (2147483647 : Int32)), (.int p1)])) t
    refine XS.iand X0.here hx rfl (hb hby at_8) rfl ?_
    show Steps p.tables e below (s₁.setTop (mkF m 9 (la0_0 p0 p1 p2) [(.int (p1 &&& (2147483647 : Int32)))])) t
    refine XS.istore X0.here hx rfl (hb hby at_9) rfl (l' := (la0_1 p0 p1 p2)) rfl ?_
    show Steps p.tables e below (s₁.setTop (mkF m 11 (la0_1 p0 p1 p2) [])) t
    refine XS.iloadN X0.here hx rfl (hb hby at_11) rfl ?_
    show Steps p.tables e below (s₁.setTop (mkF m 12 (la0_1 p0 p1 p2) [(.int p2)])) t
    refine XS.iloadN X0.here hx rfl (hb hby at_12) rfl ?_
    show Steps p.tables e below (s₁.setTop (mkF m 13 (la0_1 p0 p1 p2) [(.int (p0 &&& (2147483647 : Int32))), (.int p2)])) t
    refine XS.iload X0.here hx rfl (hb hby at_13) rfl ?_
    show Steps p.tables e below (s₁.setTop (mkF m 15 (la0_1 p0 p1 p2) [(.int (p1 &&& (2147483647 : Int32))), (.int (p0 &&& (2147483647 : Int32))), (.int p2)])) t
    exact k
  obtain ⟨_, _, ⟨T1, L1, k1, n1⟩, -, X1, ⟨Lc1, hQ1, l1, y1, z1⟩, st1⟩ := Jvm.LawKit.callS X0 hx (y := (⟨"com/example/induce/induce/learn/IncidenceJoinedPinLaw", "pick", "(III)I"⟩ : MethodName)) hown (mvT hZ (hw _ (List.mem_of_getElem? (i := 1) rfl))) (mvT hZ (hw _ (List.mem_of_getElem? (i := 2) rfl))) (mvT hZ (hw _ (List.mem_of_getElem? (i := 3) rfl))) (mvT hZ (hw _ (List.mem_of_getElem? (i := 4) rfl))) (by decide) (backOf (W := 0) (rm1 l Z a0 hw [] p2 (p0 &&& (2147483647 : Int32)) (p1 &&& (2147483647 : Int32)) h0 n0 Z0 ) hZ (hw _ (List.mem_of_getElem? (i := 4) rfl)) (hw _ (List.mem_of_getElem? (i := 3) rfl)) (by decide) (by decide)) (g := (mkF m 15 (la0_1 p0 p1 p2) [(.int (p1 &&& (2147483647 : Int32))), (.int (p0 &&& (2147483647 : Int32))), (.int p2)])) rfl (by rw [hml]; rfl) (argsL := [(.int p2), (.int (p0 &&& (2147483647 : Int32))), (.int (p1 &&& (2147483647 : Int32)))]) (rest := []) (lenOf pd__III_I rfl) rfl (by show 2 * 0 + _ ≤ _; exact Nat.le_of_eq rfl) (hb hby at_15) (fun _ _ => ⟨rfl, e0, (by decide : 0 + 0 ≤ _), (by decide : 0 + 0 ≤ _)⟩)
  dsimp only [Pt.U, Pt.locs, Pt.cells, Pt.slots] at X1 l1 y1 z1 st1 hQ1
  subst l1 y1 z1
  obtain ⟨rfl, N1q, e1⟩ := hQ1
  have N1 := Fr.app N0 N1q
  refine OEnd.go (g' := (mkF m 18 (la0_1 p0 p1 p2) [(.int (f1 p2 (p0 &&& (2147483647 : Int32)) (p1 &&& (2147483647 : Int32))))])) st1 ?_
  refine OEnd.go (T' := T1) (g' := (mkF m 26 (la0_2 p0 p1 p2) [(.int (p1 &&& (2147483647 : Int32))), (.int (p0 &&& (2147483647 : Int32))), (.int ((p2.toUInt32 >>> ((2 : Int32) &&& 31).toUInt32).toInt32))])) (fun t k => ?_) ?_
  · show Steps p.tables e below (T1.setTop (mkF m 18 (la0_1 p0 p1 p2) [(.int (f1 p2 (p0 &&& (2147483647 : Int32)) (p1 &&& (2147483647 : Int32))))])) t
    refine XS.istore X1.here hx rfl (hb hby at_18) rfl (l' := (la0_2 p0 p1 p2)) rfl ?_
    show Steps p.tables e below (T1.setTop (mkF m 20 (la0_2 p0 p1 p2) [])) t
    refine XS.iloadN X1.here hx rfl (hb hby at_20) rfl ?_
    show Steps p.tables e below (T1.setTop (mkF m 21 (la0_2 p0 p1 p2) [(.int p2)])) t
    refine XS.iconst X1.here hx rfl (hb hby at_21) ?_
    show Steps p.tables e below (T1.setTop (mkF m 22 (la0_2 p0 p1 p2) [(.int (2 : Int32)), (.int p2)])) t
    refine XS.iushr X1.here hx rfl (hb hby at_22) rfl ?_
    show Steps p.tables e below (T1.setTop (mkF m 23 (la0_2 p0 p1 p2) [(.int ((p2.toUInt32 >>> ((2 : Int32) &&& 31).toUInt32).toInt32))])) t
    refine XS.iloadN X1.here hx rfl (hb hby at_23) rfl ?_
    show Steps p.tables e below (T1.setTop (mkF m 24 (la0_2 p0 p1 p2) [(.int (p0 &&& (2147483647 : Int32))), (.int ((p2.toUInt32 >>> ((2 : Int32) &&& 31).toUInt32).toInt32))])) t
    refine XS.iload X1.here hx rfl (hb hby at_24) rfl ?_
    show Steps p.tables e below (T1.setTop (mkF m 26 (la0_2 p0 p1 p2) [(.int (p1 &&& (2147483647 : Int32))), (.int (p0 &&& (2147483647 : Int32))), (.int ((p2.toUInt32 >>> ((2 : Int32) &&& 31).toUInt32).toInt32))])) t
    exact k
  obtain ⟨_, _, ⟨T2, L2, k2, n2⟩, -, X2, ⟨Lc2, hQ2, l2, y2, z2⟩, st2⟩ := Jvm.LawKit.callS X1 hx (y := (⟨"com/example/induce/induce/learn/IncidenceJoinedPinLaw", "pick", "(III)I"⟩ : MethodName)) hown (mvT hZ (hw _ (List.mem_of_getElem? (i := 1) rfl))) (mvT hZ (hw _ (List.mem_of_getElem? (i := 2) rfl))) (mvT hZ (hw _ (List.mem_of_getElem? (i := 3) rfl))) (mvT hZ (hw _ (List.mem_of_getElem? (i := 4) rfl))) (by decide) (backOf (W := 0) (rm1 l Z a0 hw [] ((p2.toUInt32 >>> ((2 : Int32) &&& 31).toUInt32).toInt32) (p0 &&& (2147483647 : Int32)) (p1 &&& (2147483647 : Int32)) h0 n0 Z0 ) hZ (hw _ (List.mem_of_getElem? (i := 4) rfl)) (hw _ (List.mem_of_getElem? (i := 3) rfl)) (by decide) (by decide)) (g := (mkF m 26 (la0_2 p0 p1 p2) [(.int (p1 &&& (2147483647 : Int32))), (.int (p0 &&& (2147483647 : Int32))), (.int ((p2.toUInt32 >>> ((2 : Int32) &&& 31).toUInt32).toInt32))])) rfl (by rw [hml]; rfl) (argsL := [(.int ((p2.toUInt32 >>> ((2 : Int32) &&& 31).toUInt32).toInt32)), (.int (p0 &&& (2147483647 : Int32))), (.int (p1 &&& (2147483647 : Int32)))]) (rest := []) (lenOf pd__III_I rfl) rfl (by show 2 * 0 + _ ≤ _; exact Nat.le_of_eq rfl) (hb hby at_26) (fun _ _ => ⟨rfl, e1, (by decide : 0 + 0 ≤ _), (by decide : 0 + 0 ≤ _)⟩)
  dsimp only [Pt.U, Pt.locs, Pt.cells, Pt.slots] at X2 l2 y2 z2 st2 hQ2
  subst l2 y2 z2
  obtain ⟨rfl, N2q, e2⟩ := hQ2
  have N2 := Fr.app N1 N2q
  refine OEnd.go (g' := (mkF m 29 (la0_2 p0 p1 p2) [(.int (f1 ((p2.toUInt32 >>> ((2 : Int32) &&& 31).toUInt32).toInt32) (p0 &&& (2147483647 : Int32)) (p1 &&& (2147483647 : Int32))))])) st2 ?_
  refine OEnd.go (T' := T2) (g' := (mkF m 37 (la0_3 p0 p1 p2) [(.int (p1 &&& (2147483647 : Int32))), (.int (p0 &&& (2147483647 : Int32))), (.int ((p2.toUInt32 >>> ((4 : Int32) &&& 31).toUInt32).toInt32))])) (fun t k => ?_) ?_
  · show Steps p.tables e below (T2.setTop (mkF m 29 (la0_2 p0 p1 p2) [(.int (f1 ((p2.toUInt32 >>> ((2 : Int32) &&& 31).toUInt32).toInt32) (p0 &&& (2147483647 : Int32)) (p1 &&& (2147483647 : Int32))))])) t
    refine XS.istore X2.here hx rfl (hb hby at_29) rfl (l' := (la0_3 p0 p1 p2)) rfl ?_
    show Steps p.tables e below (T2.setTop (mkF m 31 (la0_3 p0 p1 p2) [])) t
    refine XS.iloadN X2.here hx rfl (hb hby at_31) rfl ?_
    show Steps p.tables e below (T2.setTop (mkF m 32 (la0_3 p0 p1 p2) [(.int p2)])) t
    refine XS.iconst X2.here hx rfl (hb hby at_32) ?_
    show Steps p.tables e below (T2.setTop (mkF m 33 (la0_3 p0 p1 p2) [(.int (4 : Int32)), (.int p2)])) t
    refine XS.iushr X2.here hx rfl (hb hby at_33) rfl ?_
    show Steps p.tables e below (T2.setTop (mkF m 34 (la0_3 p0 p1 p2) [(.int ((p2.toUInt32 >>> ((4 : Int32) &&& 31).toUInt32).toInt32))])) t
    refine XS.iloadN X2.here hx rfl (hb hby at_34) rfl ?_
    show Steps p.tables e below (T2.setTop (mkF m 35 (la0_3 p0 p1 p2) [(.int (p0 &&& (2147483647 : Int32))), (.int ((p2.toUInt32 >>> ((4 : Int32) &&& 31).toUInt32).toInt32))])) t
    refine XS.iload X2.here hx rfl (hb hby at_35) rfl ?_
    show Steps p.tables e below (T2.setTop (mkF m 37 (la0_3 p0 p1 p2) [(.int (p1 &&& (2147483647 : Int32))), (.int (p0 &&& (2147483647 : Int32))), (.int ((p2.toUInt32 >>> ((4 : Int32) &&& 31).toUInt32).toInt32))])) t
    exact k
  obtain ⟨_, _, ⟨T3, L3, k3, n3⟩, -, X3, ⟨Lc3, hQ3, l3, y3, z3⟩, st3⟩ := Jvm.LawKit.callS X2 hx (y := (⟨"com/example/induce/induce/learn/IncidenceJoinedPinLaw", "pick", "(III)I"⟩ : MethodName)) hown (mvT hZ (hw _ (List.mem_of_getElem? (i := 1) rfl))) (mvT hZ (hw _ (List.mem_of_getElem? (i := 2) rfl))) (mvT hZ (hw _ (List.mem_of_getElem? (i := 3) rfl))) (mvT hZ (hw _ (List.mem_of_getElem? (i := 4) rfl))) (by decide) (backOf (W := 0) (rm1 l Z a0 hw [] ((p2.toUInt32 >>> ((4 : Int32) &&& 31).toUInt32).toInt32) (p0 &&& (2147483647 : Int32)) (p1 &&& (2147483647 : Int32)) h0 n0 Z0 ) hZ (hw _ (List.mem_of_getElem? (i := 4) rfl)) (hw _ (List.mem_of_getElem? (i := 3) rfl)) (by decide) (by decide)) (g := (mkF m 37 (la0_3 p0 p1 p2) [(.int (p1 &&& (2147483647 : Int32))), (.int (p0 &&& (2147483647 : Int32))), (.int ((p2.toUInt32 >>> ((4 : Int32) &&& 31).toUInt32).toInt32))])) rfl (by rw [hml]; rfl) (argsL := [(.int ((p2.toUInt32 >>> ((4 : Int32) &&& 31).toUInt32).toInt32)), (.int (p0 &&& (2147483647 : Int32))), (.int (p1 &&& (2147483647 : Int32)))]) (rest := []) (lenOf pd__III_I rfl) rfl (by show 2 * 0 + _ ≤ _; exact Nat.le_of_eq rfl) (hb hby at_37) (fun _ _ => ⟨rfl, e2, (by decide : 0 + 0 ≤ _), (by decide : 0 + 0 ≤ _)⟩)
  dsimp only [Pt.U, Pt.locs, Pt.cells, Pt.slots] at X3 l3 y3 z3 st3 hQ3
  subst l3 y3 z3
  obtain ⟨rfl, N3q, e3⟩ := hQ3
  have N3 := Fr.app N2 N3q
  refine OEnd.go (g' := (mkF m 40 (la0_3 p0 p1 p2) [(.int (f1 ((p2.toUInt32 >>> ((4 : Int32) &&& 31).toUInt32).toInt32) (p0 &&& (2147483647 : Int32)) (p1 &&& (2147483647 : Int32))))])) st3 ?_
  refine OEnd.go (T' := T3) (g' := (mkF m 46 (la0_4 p0 p1 p2) [(.int (v0_29 p0 p1 p2)), (.int (v0_18 p0 p1 p2))])) (fun t k => ?_) ?_
  · show Steps p.tables e below (T3.setTop (mkF m 40 (la0_3 p0 p1 p2) [(.int (f1 ((p2.toUInt32 >>> ((4 : Int32) &&& 31).toUInt32).toInt32) (p0 &&& (2147483647 : Int32)) (p1 &&& (2147483647 : Int32))))])) t
    refine XS.istore X3.here hx rfl (hb hby at_40) rfl (l' := (la0_4 p0 p1 p2)) rfl ?_
    show Steps p.tables e below (T3.setTop (mkF m 42 (la0_4 p0 p1 p2) [])) t
    refine XS.iload X3.here hx rfl (hb hby at_42) rfl ?_
    show Steps p.tables e below (T3.setTop (mkF m 44 (la0_4 p0 p1 p2) [(.int (v0_18 p0 p1 p2))])) t
    refine XS.iload X3.here hx rfl (hb hby at_44) rfl ?_
    show Steps p.tables e below (T3.setTop (mkF m 46 (la0_4 p0 p1 p2) [(.int (v0_29 p0 p1 p2)), (.int (v0_18 p0 p1 p2))])) t
    exact k
  obtain ⟨_, _, ⟨T4, L4, k4, n4⟩, -, X4, ⟨Lc4, hQ4, l4, y4, z4⟩, st4⟩ := Jvm.LawKit.callS X3 hx (y := (⟨"com/example/induce/induce/learn/Incidence", "joined", "(II)I"⟩ : MethodName)) hown (mvT hZ (hw _ (List.mem_of_getElem? (i := 5) rfl))) (mvT hZ (hw _ (List.mem_of_getElem? (i := 6) rfl))) (mvT hZ (hw _ (List.mem_of_getElem? (i := 7) rfl))) (mvT hZ (hw _ (List.mem_of_getElem? (i := 8) rfl))) (by decide) (backOf (W := 0) (rm2 l Z a0 hw [] (v0_18 p0 p1 p2) (v0_29 p0 p1 p2) h0 n0 Z0 ) hZ (hw _ (List.mem_of_getElem? (i := 8) rfl)) (hw _ (List.mem_of_getElem? (i := 7) rfl)) (by decide) (by decide)) (g := (mkF m 46 (la0_4 p0 p1 p2) [(.int (v0_29 p0 p1 p2)), (.int (v0_18 p0 p1 p2))])) rfl (by rw [hml]; rfl) (argsL := [(.int (v0_18 p0 p1 p2)), (.int (v0_29 p0 p1 p2))]) (rest := []) (lenOf pd__II_I rfl) rfl (by show 2 * 0 + _ ≤ _; exact Nat.le_of_eq rfl) (hb hby at_46) (fun _ _ => ⟨rfl, e3, (by decide : 0 + 0 ≤ _), (by decide : 0 + 0 ≤ _)⟩)
  dsimp only [Pt.U, Pt.locs, Pt.cells, Pt.slots] at X4 l4 y4 z4 st4 hQ4
  subst l4 y4 z4
  obtain ⟨rfl, N4q, e4⟩ := hQ4
  have N4 := Fr.app N3 N4q
  refine OEnd.go (g' := (mkF m 49 (la0_4 p0 p1 p2) [(.int (f2 (v0_18 p0 p1 p2) (v0_29 p0 p1 p2)))])) st4 ?_
  refine OEnd.go (T' := T4) (g' := (mkF m 57 (la0_5 p0 p1 p2) [(.int (v0_29 p0 p1 p2)), (.int (v0_18 p0 p1 p2)), (.int (v0_49 p0 p1 p2))])) (fun t k => ?_) ?_
  · show Steps p.tables e below (T4.setTop (mkF m 49 (la0_4 p0 p1 p2) [(.int (f2 (v0_18 p0 p1 p2) (v0_29 p0 p1 p2)))])) t
    refine XS.istore X4.here hx rfl (hb hby at_49) rfl (l' := (la0_5 p0 p1 p2)) rfl ?_
    show Steps p.tables e below (T4.setTop (mkF m 51 (la0_5 p0 p1 p2) [])) t
    refine XS.iload X4.here hx rfl (hb hby at_51) rfl ?_
    show Steps p.tables e below (T4.setTop (mkF m 53 (la0_5 p0 p1 p2) [(.int (v0_49 p0 p1 p2))])) t
    refine XS.iload X4.here hx rfl (hb hby at_53) rfl ?_
    show Steps p.tables e below (T4.setTop (mkF m 55 (la0_5 p0 p1 p2) [(.int (v0_18 p0 p1 p2)), (.int (v0_49 p0 p1 p2))])) t
    refine XS.iload X4.here hx rfl (hb hby at_55) rfl ?_
    show Steps p.tables e below (T4.setTop (mkF m 57 (la0_5 p0 p1 p2) [(.int (v0_29 p0 p1 p2)), (.int (v0_18 p0 p1 p2)), (.int (v0_49 p0 p1 p2))])) t
    exact k
  obtain ⟨_, _, ⟨T5, L5, k5, n5⟩, -, X5, ⟨Lc5, hQ5, l5, y5, z5⟩, st5⟩ := Jvm.LawKit.callS X4 hx (y := (⟨"com/example/induce/induce/learn/IncidenceJoinedPinLaw", "union", "(II)I"⟩ : MethodName)) hown (mvT hZ (hw _ (List.mem_of_getElem? (i := 9) rfl))) (mvT hZ (hw _ (List.mem_of_getElem? (i := 10) rfl))) (mvT hZ (hw _ (List.mem_of_getElem? (i := 3) rfl))) (mvT hZ (hw _ (List.mem_of_getElem? (i := 11) rfl))) (by decide) (backOf (W := 1) (rm3 l Z a0 hw [] (v0_18 p0 p1 p2) (v0_29 p0 p1 p2) h0 n0 Z0 ) hZ (hw _ (List.mem_of_getElem? (i := 11) rfl)) (hw _ (List.mem_of_getElem? (i := 3) rfl)) (by decide) (by decide)) (g := (mkF m 57 (la0_5 p0 p1 p2) [(.int (v0_29 p0 p1 p2)), (.int (v0_18 p0 p1 p2)), (.int (v0_49 p0 p1 p2))])) rfl (by rw [hml]; rfl) (argsL := [(.int (v0_18 p0 p1 p2)), (.int (v0_29 p0 p1 p2))]) (rest := [(.int (v0_49 p0 p1 p2))]) (lenOf pd__II_I rfl) rfl (by show 2 * 0 + _ ≤ _; exact Nat.le_of_eq rfl) (hb hby at_57) (fun _ _ => ⟨rfl, e4, (by decide : 0 + 0 ≤ _), (by decide : 0 + 0 ≤ _)⟩)
  dsimp only [Pt.U, Pt.locs, Pt.cells, Pt.slots] at X5 l5 y5 z5 st5 hQ5
  subst l5 y5 z5
  obtain ⟨rfl, N5q, e5⟩ := hQ5
  have N5 := Fr.app N4 N5q
  refine OEnd.go (g' := (mkF m 60 (la0_5 p0 p1 p2) [(.int (f3 (v0_18 p0 p1 p2) (v0_29 p0 p1 p2))), (.int (v0_49 p0 p1 p2))])) st5 ?_
  refine OEnd.go (T' := T5) (g' := (mkF m 68 (la0_5 p0 p1 p2) [(.int (if (v0_49 p0 p1 p2) = (f3 (v0_18 p0 p1 p2) (v0_29 p0 p1 p2)) then (1 : Int32) else (0 : Int32)))])) (fun t k => ?_) ?_
  · show Steps p.tables e below (T5.setTop (mkF m 60 (la0_5 p0 p1 p2) [(.int (f3 (v0_18 p0 p1 p2) (v0_29 p0 p1 p2))), (.int (v0_49 p0 p1 p2))])) t
    by_cases hc6 : (v0_49 p0 p1 p2) = (f3 (v0_18 p0 p1 p2) (v0_29 p0 p1 p2))
    · skip
      refine XS.icmpNo X5.here hx rfl (hb hby at_60) rfl (teq (hc6)).2 ?_
      show Steps p.tables e below (T5.setTop (mkF m 63 (la0_5 p0 p1 p2) [])) t
      refine SGo.go (T' := T5) (g' := (mkF m 68 (la0_5 p0 p1 p2) [(.int (1 : Int32))])) (fun t k => ?_) ?_
      · show Steps p.tables e below (T5.setTop (mkF m 63 (la0_5 p0 p1 p2) [])) t
        refine XS.iconst X5.here hx rfl (hb hby at_63) ?_
        show Steps p.tables e below (T5.setTop (mkF m 64 (la0_5 p0 p1 p2) [(.int (1 : Int32))])) t
        refine XS.goto X5.here hx rfl (pc0 := 64) (pc' := 68) rfl (hb hby at_64) (by decide) (by decide) ?_
        show Steps p.tables e below (T5.setTop (mkF m 68 (la0_5 p0 p1 p2) [(.int (1 : Int32))])) t
        exact k
      exact (own_k (f := fun (z : Int32) => mkF m 68 #[.val (.int p0), .val (.int p1), .val (.int p2), .val (.int (p0 &&& (2147483647 : Int32))), .val (.int (p1 &&& (2147483647 : Int32))), .val (.int (v0_18 p0 p1 p2)), .val (.int (v0_29 p0 p1 p2)), .val (.int (v0_40 p0 p1 p2)), .val (.int (v0_49 p0 p1 p2)), .unset, .unset, .unset, .unset] [(.int z)]) (if_pos hc6) k)
    · skip
      refine XS.icmpYes X5.here hx rfl (pc0 := 60) (pc' := 67) rfl (hb hby at_60) rfl (feq (hc6)).2 (by decide) (by decide) ?_
      show Steps p.tables e below (T5.setTop (mkF m 67 (la0_5 p0 p1 p2) [])) t
      refine SGo.go (T' := T5) (g' := (mkF m 68 (la0_5 p0 p1 p2) [(.int (0 : Int32))])) (fun t k => ?_) ?_
      · show Steps p.tables e below (T5.setTop (mkF m 67 (la0_5 p0 p1 p2) [])) t
        refine XS.iconst X5.here hx rfl (hb hby at_67) ?_
        show Steps p.tables e below (T5.setTop (mkF m 68 (la0_5 p0 p1 p2) [(.int (0 : Int32))])) t
        exact k
      exact (own_k (f := fun (z : Int32) => mkF m 68 #[.val (.int p0), .val (.int p1), .val (.int p2), .val (.int (p0 &&& (2147483647 : Int32))), .val (.int (p1 &&& (2147483647 : Int32))), .val (.int (v0_18 p0 p1 p2)), .val (.int (v0_29 p0 p1 p2)), .val (.int (v0_40 p0 p1 p2)), .val (.int (v0_49 p0 p1 p2)), .unset, .unset, .unset, .unset] [(.int z)]) (if_neg hc6) k)
  refine OEnd.go (T' := T5) (g' := (mkF m 76 (la0_6 p0 p1 p2) [(.int (v0_18 p0 p1 p2)), (.int (v0_29 p0 p1 p2)), (.int (v0_49 p0 p1 p2))])) (fun t k => ?_) ?_
  · show Steps p.tables e below (T5.setTop (mkF m 68 (la0_5 p0 p1 p2) [(.int (if (v0_49 p0 p1 p2) = (f3 (v0_18 p0 p1 p2) (v0_29 p0 p1 p2)) then (1 : Int32) else (0 : Int32)))])) t
    refine XS.istore X5.here hx rfl (hb hby at_68) rfl (l' := (la0_6 p0 p1 p2)) rfl ?_
    show Steps p.tables e below (T5.setTop (mkF m 70 (la0_6 p0 p1 p2) [])) t
    refine XS.iload X5.here hx rfl (hb hby at_70) rfl ?_
    show Steps p.tables e below (T5.setTop (mkF m 72 (la0_6 p0 p1 p2) [(.int (v0_49 p0 p1 p2))])) t
    refine XS.iload X5.here hx rfl (hb hby at_72) rfl ?_
    show Steps p.tables e below (T5.setTop (mkF m 74 (la0_6 p0 p1 p2) [(.int (v0_29 p0 p1 p2)), (.int (v0_49 p0 p1 p2))])) t
    refine XS.iload X5.here hx rfl (hb hby at_74) rfl ?_
    show Steps p.tables e below (T5.setTop (mkF m 76 (la0_6 p0 p1 p2) [(.int (v0_18 p0 p1 p2)), (.int (v0_29 p0 p1 p2)), (.int (v0_49 p0 p1 p2))])) t
    exact k
  obtain ⟨_, _, ⟨T7, L7, k7, n7⟩, -, X7, ⟨Lc7, hQ7, l7, y7, z7⟩, st7⟩ := Jvm.LawKit.callS X5 hx (y := (⟨"com/example/induce/induce/learn/Incidence", "joined", "(II)I"⟩ : MethodName)) hown (mvT hZ (hw _ (List.mem_of_getElem? (i := 5) rfl))) (mvT hZ (hw _ (List.mem_of_getElem? (i := 6) rfl))) (mvT hZ (hw _ (List.mem_of_getElem? (i := 7) rfl))) (mvT hZ (hw _ (List.mem_of_getElem? (i := 8) rfl))) (by decide) (backOf (W := 1) (rm2 l Z a0 hw [] (v0_29 p0 p1 p2) (v0_18 p0 p1 p2) h0 n0 Z0 ) hZ (hw _ (List.mem_of_getElem? (i := 8) rfl)) (hw _ (List.mem_of_getElem? (i := 7) rfl)) (by decide) (by decide)) (g := (mkF m 76 (la0_6 p0 p1 p2) [(.int (v0_18 p0 p1 p2)), (.int (v0_29 p0 p1 p2)), (.int (v0_49 p0 p1 p2))])) rfl (by rw [hml]; rfl) (argsL := [(.int (v0_29 p0 p1 p2)), (.int (v0_18 p0 p1 p2))]) (rest := [(.int (v0_49 p0 p1 p2))]) (lenOf pd__II_I rfl) rfl (by show 2 * 0 + _ ≤ _; exact Nat.le_of_eq rfl) (hb hby at_76) (fun _ _ => ⟨rfl, e5, (by decide : 0 + 0 ≤ _), (by decide : 0 + 0 ≤ _)⟩)
  dsimp only [Pt.U, Pt.locs, Pt.cells, Pt.slots] at X7 l7 y7 z7 st7 hQ7
  subst l7 y7 z7
  obtain ⟨rfl, N7q, e7⟩ := hQ7
  have N7 := Fr.app N5 N7q
  refine OEnd.go (g' := (mkF m 79 (la0_6 p0 p1 p2) [(.int (f2 (v0_29 p0 p1 p2) (v0_18 p0 p1 p2))), (.int (v0_49 p0 p1 p2))])) st7 ?_
  refine OEnd.go (T' := T7) (g' := (mkF m 87 (la0_6 p0 p1 p2) [(.int (if (v0_49 p0 p1 p2) = (f2 (v0_29 p0 p1 p2) (v0_18 p0 p1 p2)) then (1 : Int32) else (0 : Int32)))])) (fun t k => ?_) ?_
  · show Steps p.tables e below (T7.setTop (mkF m 79 (la0_6 p0 p1 p2) [(.int (f2 (v0_29 p0 p1 p2) (v0_18 p0 p1 p2))), (.int (v0_49 p0 p1 p2))])) t
    by_cases hc8 : (v0_49 p0 p1 p2) = (f2 (v0_29 p0 p1 p2) (v0_18 p0 p1 p2))
    · skip
      refine XS.icmpNo X7.here hx rfl (hb hby at_79) rfl (teq (hc8)).2 ?_
      show Steps p.tables e below (T7.setTop (mkF m 82 (la0_6 p0 p1 p2) [])) t
      refine SGo.go (T' := T7) (g' := (mkF m 87 (la0_6 p0 p1 p2) [(.int (1 : Int32))])) (fun t k => ?_) ?_
      · show Steps p.tables e below (T7.setTop (mkF m 82 (la0_6 p0 p1 p2) [])) t
        refine XS.iconst X7.here hx rfl (hb hby at_82) ?_
        show Steps p.tables e below (T7.setTop (mkF m 83 (la0_6 p0 p1 p2) [(.int (1 : Int32))])) t
        refine XS.goto X7.here hx rfl (pc0 := 83) (pc' := 87) rfl (hb hby at_83) (by decide) (by decide) ?_
        show Steps p.tables e below (T7.setTop (mkF m 87 (la0_6 p0 p1 p2) [(.int (1 : Int32))])) t
        exact k
      exact (own_k (f := fun (z : Int32) => mkF m 87 #[.val (.int p0), .val (.int p1), .val (.int p2), .val (.int (p0 &&& (2147483647 : Int32))), .val (.int (p1 &&& (2147483647 : Int32))), .val (.int (v0_18 p0 p1 p2)), .val (.int (v0_29 p0 p1 p2)), .val (.int (v0_40 p0 p1 p2)), .val (.int (v0_49 p0 p1 p2)), .val (.int (v0_68 p0 p1 p2)), .unset, .unset, .unset] [(.int z)]) (if_pos hc8) k)
    · skip
      refine XS.icmpYes X7.here hx rfl (pc0 := 79) (pc' := 86) rfl (hb hby at_79) rfl (feq (hc8)).2 (by decide) (by decide) ?_
      show Steps p.tables e below (T7.setTop (mkF m 86 (la0_6 p0 p1 p2) [])) t
      refine SGo.go (T' := T7) (g' := (mkF m 87 (la0_6 p0 p1 p2) [(.int (0 : Int32))])) (fun t k => ?_) ?_
      · show Steps p.tables e below (T7.setTop (mkF m 86 (la0_6 p0 p1 p2) [])) t
        refine XS.iconst X7.here hx rfl (hb hby at_86) ?_
        show Steps p.tables e below (T7.setTop (mkF m 87 (la0_6 p0 p1 p2) [(.int (0 : Int32))])) t
        exact k
      exact (own_k (f := fun (z : Int32) => mkF m 87 #[.val (.int p0), .val (.int p1), .val (.int p2), .val (.int (p0 &&& (2147483647 : Int32))), .val (.int (p1 &&& (2147483647 : Int32))), .val (.int (v0_18 p0 p1 p2)), .val (.int (v0_29 p0 p1 p2)), .val (.int (v0_40 p0 p1 p2)), .val (.int (v0_49 p0 p1 p2)), .val (.int (v0_68 p0 p1 p2)), .unset, .unset, .unset] [(.int z)]) (if_neg hc8) k)
  refine OEnd.go (T' := T7) (g' := (mkF m 93 (la0_7 p0 p1 p2) [(.int (v0_40 p0 p1 p2)), (.int (v0_49 p0 p1 p2))])) (fun t k => ?_) ?_
  · show Steps p.tables e below (T7.setTop (mkF m 87 (la0_6 p0 p1 p2) [(.int (if (v0_49 p0 p1 p2) = (f2 (v0_29 p0 p1 p2) (v0_18 p0 p1 p2)) then (1 : Int32) else (0 : Int32)))])) t
    refine XS.istore X7.here hx rfl (hb hby at_87) rfl (l' := (la0_7 p0 p1 p2)) rfl ?_
    show Steps p.tables e below (T7.setTop (mkF m 89 (la0_7 p0 p1 p2) [])) t
    refine XS.iload X7.here hx rfl (hb hby at_89) rfl ?_
    show Steps p.tables e below (T7.setTop (mkF m 91 (la0_7 p0 p1 p2) [(.int (v0_49 p0 p1 p2))])) t
    refine XS.iload X7.here hx rfl (hb hby at_91) rfl ?_
    show Steps p.tables e below (T7.setTop (mkF m 93 (la0_7 p0 p1 p2) [(.int (v0_40 p0 p1 p2)), (.int (v0_49 p0 p1 p2))])) t
    exact k
  obtain ⟨_, _, ⟨T9, L9, k9, n9⟩, -, X9, ⟨Lc9, hQ9, l9, y9, z9⟩, st9⟩ := Jvm.LawKit.callS X7 hx (y := (⟨"com/example/induce/induce/learn/Incidence", "joined", "(II)I"⟩ : MethodName)) hown (mvT hZ (hw _ (List.mem_of_getElem? (i := 5) rfl))) (mvT hZ (hw _ (List.mem_of_getElem? (i := 6) rfl))) (mvT hZ (hw _ (List.mem_of_getElem? (i := 7) rfl))) (mvT hZ (hw _ (List.mem_of_getElem? (i := 8) rfl))) (by decide) (backOf (W := 0) (rm2 l Z a0 hw [] (v0_49 p0 p1 p2) (v0_40 p0 p1 p2) h0 n0 Z0 ) hZ (hw _ (List.mem_of_getElem? (i := 8) rfl)) (hw _ (List.mem_of_getElem? (i := 7) rfl)) (by decide) (by decide)) (g := (mkF m 93 (la0_7 p0 p1 p2) [(.int (v0_40 p0 p1 p2)), (.int (v0_49 p0 p1 p2))])) rfl (by rw [hml]; rfl) (argsL := [(.int (v0_49 p0 p1 p2)), (.int (v0_40 p0 p1 p2))]) (rest := []) (lenOf pd__II_I rfl) rfl (by show 2 * 0 + _ ≤ _; exact Nat.le_of_eq rfl) (hb hby at_93) (fun _ _ => ⟨rfl, e7, (by decide : 0 + 0 ≤ _), (by decide : 0 + 0 ≤ _)⟩)
  dsimp only [Pt.U, Pt.locs, Pt.cells, Pt.slots] at X9 l9 y9 z9 st9 hQ9
  subst l9 y9 z9
  obtain ⟨rfl, N9q, e9⟩ := hQ9
  have N9 := Fr.app N7 N9q
  refine OEnd.go (g' := (mkF m 96 (la0_7 p0 p1 p2) [(.int (f2 (v0_49 p0 p1 p2) (v0_40 p0 p1 p2)))])) st9 ?_
  refine OEnd.go (T' := T9) (g' := (mkF m 102 (la0_7 p0 p1 p2) [(.int (v0_40 p0 p1 p2)), (.int (v0_29 p0 p1 p2)), (.int (v0_18 p0 p1 p2)), (.int (f2 (v0_49 p0 p1 p2) (v0_40 p0 p1 p2)))])) (fun t k => ?_) ?_
  · show Steps p.tables e below (T9.setTop (mkF m 96 (la0_7 p0 p1 p2) [(.int (f2 (v0_49 p0 p1 p2) (v0_40 p0 p1 p2)))])) t
    refine XS.iload X9.here hx rfl (hb hby at_96) rfl ?_
    show Steps p.tables e below (T9.setTop (mkF m 98 (la0_7 p0 p1 p2) [(.int (v0_18 p0 p1 p2)), (.int (f2 (v0_49 p0 p1 p2) (v0_40 p0 p1 p2)))])) t
    refine XS.iload X9.here hx rfl (hb hby at_98) rfl ?_
    show Steps p.tables e below (T9.setTop (mkF m 100 (la0_7 p0 p1 p2) [(.int (v0_29 p0 p1 p2)), (.int (v0_18 p0 p1 p2)), (.int (f2 (v0_49 p0 p1 p2) (v0_40 p0 p1 p2)))])) t
    refine XS.iload X9.here hx rfl (hb hby at_100) rfl ?_
    show Steps p.tables e below (T9.setTop (mkF m 102 (la0_7 p0 p1 p2) [(.int (v0_40 p0 p1 p2)), (.int (v0_29 p0 p1 p2)), (.int (v0_18 p0 p1 p2)), (.int (f2 (v0_49 p0 p1 p2) (v0_40 p0 p1 p2)))])) t
    exact k
  obtain ⟨_, _, ⟨T10, L10, k10, n10⟩, -, X10, ⟨Lc10, hQ10, l10, y10, z10⟩, st10⟩ := Jvm.LawKit.callS X9 hx (y := (⟨"com/example/induce/induce/learn/Incidence", "joined", "(II)I"⟩ : MethodName)) hown (mvT hZ (hw _ (List.mem_of_getElem? (i := 5) rfl))) (mvT hZ (hw _ (List.mem_of_getElem? (i := 6) rfl))) (mvT hZ (hw _ (List.mem_of_getElem? (i := 7) rfl))) (mvT hZ (hw _ (List.mem_of_getElem? (i := 8) rfl))) (by decide) (backOf (W := 2) (rm2 l Z a0 hw [] (v0_29 p0 p1 p2) (v0_40 p0 p1 p2) h0 n0 Z0 ) hZ (hw _ (List.mem_of_getElem? (i := 8) rfl)) (hw _ (List.mem_of_getElem? (i := 7) rfl)) (by decide) (by decide)) (g := (mkF m 102 (la0_7 p0 p1 p2) [(.int (v0_40 p0 p1 p2)), (.int (v0_29 p0 p1 p2)), (.int (v0_18 p0 p1 p2)), (.int (f2 (v0_49 p0 p1 p2) (v0_40 p0 p1 p2)))])) rfl (by rw [hml]; rfl) (argsL := [(.int (v0_29 p0 p1 p2)), (.int (v0_40 p0 p1 p2))]) (rest := [(.int (v0_18 p0 p1 p2)), (.int (f2 (v0_49 p0 p1 p2) (v0_40 p0 p1 p2)))]) (lenOf pd__II_I rfl) rfl (by show 2 * 0 + _ ≤ _; exact Nat.le_of_eq rfl) (hb hby at_102) (fun _ _ => ⟨rfl, e9, (by decide : 0 + 0 ≤ _), (by decide : 0 + 0 ≤ _)⟩)
  dsimp only [Pt.U, Pt.locs, Pt.cells, Pt.slots] at X10 l10 y10 z10 st10 hQ10
  subst l10 y10 z10
  obtain ⟨rfl, N10q, e10⟩ := hQ10
  have N10 := Fr.app N9 N10q
  refine OEnd.go (g' := (mkF m 105 (la0_7 p0 p1 p2) [(.int (f2 (v0_29 p0 p1 p2) (v0_40 p0 p1 p2))), (.int (v0_18 p0 p1 p2)), (.int (f2 (v0_49 p0 p1 p2) (v0_40 p0 p1 p2)))])) st10 ?_
  obtain ⟨_, _, ⟨T11, L11, k11, n11⟩, -, X11, ⟨Lc11, hQ11, l11, y11, z11⟩, st11⟩ := Jvm.LawKit.callS X10 hx (y := (⟨"com/example/induce/induce/learn/Incidence", "joined", "(II)I"⟩ : MethodName)) hown (mvT hZ (hw _ (List.mem_of_getElem? (i := 5) rfl))) (mvT hZ (hw _ (List.mem_of_getElem? (i := 6) rfl))) (mvT hZ (hw _ (List.mem_of_getElem? (i := 7) rfl))) (mvT hZ (hw _ (List.mem_of_getElem? (i := 8) rfl))) (by decide) (backOf (W := 1) (rm2 l Z a0 hw [] (v0_18 p0 p1 p2) (f2 (v0_29 p0 p1 p2) (v0_40 p0 p1 p2)) h0 n0 Z0 ) hZ (hw _ (List.mem_of_getElem? (i := 8) rfl)) (hw _ (List.mem_of_getElem? (i := 7) rfl)) (by decide) (by decide)) (g := (mkF m 105 (la0_7 p0 p1 p2) [(.int (f2 (v0_29 p0 p1 p2) (v0_40 p0 p1 p2))), (.int (v0_18 p0 p1 p2)), (.int (f2 (v0_49 p0 p1 p2) (v0_40 p0 p1 p2)))])) rfl (by rw [hml]; rfl) (argsL := [(.int (v0_18 p0 p1 p2)), (.int (f2 (v0_29 p0 p1 p2) (v0_40 p0 p1 p2)))]) (rest := [(.int (f2 (v0_49 p0 p1 p2) (v0_40 p0 p1 p2)))]) (lenOf pd__II_I rfl) rfl (by show 2 * 0 + _ ≤ _; exact Nat.le_of_eq rfl) (hb hby at_105) (fun _ _ => ⟨rfl, e10, (by decide : 0 + 0 ≤ _), (by decide : 0 + 0 ≤ _)⟩)
  dsimp only [Pt.U, Pt.locs, Pt.cells, Pt.slots] at X11 l11 y11 z11 st11 hQ11
  subst l11 y11 z11
  obtain ⟨rfl, N11q, e11⟩ := hQ11
  have N11 := Fr.app N10 N11q
  refine OEnd.go (g' := (mkF m 108 (la0_7 p0 p1 p2) [(.int (f2 (v0_18 p0 p1 p2) (f2 (v0_29 p0 p1 p2) (v0_40 p0 p1 p2)))), (.int (f2 (v0_49 p0 p1 p2) (v0_40 p0 p1 p2)))])) st11 ?_
  refine OEnd.go (T' := T11) (g' := (mkF m 116 (la0_7 p0 p1 p2) [(.int (if (f2 (v0_49 p0 p1 p2) (v0_40 p0 p1 p2)) = (f2 (v0_18 p0 p1 p2) (f2 (v0_29 p0 p1 p2) (v0_40 p0 p1 p2))) then (1 : Int32) else (0 : Int32)))])) (fun t k => ?_) ?_
  · show Steps p.tables e below (T11.setTop (mkF m 108 (la0_7 p0 p1 p2) [(.int (f2 (v0_18 p0 p1 p2) (f2 (v0_29 p0 p1 p2) (v0_40 p0 p1 p2)))), (.int (f2 (v0_49 p0 p1 p2) (v0_40 p0 p1 p2)))])) t
    by_cases hc12 : (f2 (v0_49 p0 p1 p2) (v0_40 p0 p1 p2)) = (f2 (v0_18 p0 p1 p2) (f2 (v0_29 p0 p1 p2) (v0_40 p0 p1 p2)))
    · skip
      refine XS.icmpNo X11.here hx rfl (hb hby at_108) rfl (teq (hc12)).2 ?_
      show Steps p.tables e below (T11.setTop (mkF m 111 (la0_7 p0 p1 p2) [])) t
      refine SGo.go (T' := T11) (g' := (mkF m 116 (la0_7 p0 p1 p2) [(.int (1 : Int32))])) (fun t k => ?_) ?_
      · show Steps p.tables e below (T11.setTop (mkF m 111 (la0_7 p0 p1 p2) [])) t
        refine XS.iconst X11.here hx rfl (hb hby at_111) ?_
        show Steps p.tables e below (T11.setTop (mkF m 112 (la0_7 p0 p1 p2) [(.int (1 : Int32))])) t
        refine XS.goto X11.here hx rfl (pc0 := 112) (pc' := 116) rfl (hb hby at_112) (by decide) (by decide) ?_
        show Steps p.tables e below (T11.setTop (mkF m 116 (la0_7 p0 p1 p2) [(.int (1 : Int32))])) t
        exact k
      exact (own_k (f := fun (z : Int32) => mkF m 116 #[.val (.int p0), .val (.int p1), .val (.int p2), .val (.int (p0 &&& (2147483647 : Int32))), .val (.int (p1 &&& (2147483647 : Int32))), .val (.int (v0_18 p0 p1 p2)), .val (.int (v0_29 p0 p1 p2)), .val (.int (v0_40 p0 p1 p2)), .val (.int (v0_49 p0 p1 p2)), .val (.int (v0_68 p0 p1 p2)), .val (.int (v0_87 p0 p1 p2)), .unset, .unset] [(.int z)]) (if_pos hc12) k)
    · skip
      refine XS.icmpYes X11.here hx rfl (pc0 := 108) (pc' := 115) rfl (hb hby at_108) rfl (feq (hc12)).2 (by decide) (by decide) ?_
      show Steps p.tables e below (T11.setTop (mkF m 115 (la0_7 p0 p1 p2) [])) t
      refine SGo.go (T' := T11) (g' := (mkF m 116 (la0_7 p0 p1 p2) [(.int (0 : Int32))])) (fun t k => ?_) ?_
      · show Steps p.tables e below (T11.setTop (mkF m 115 (la0_7 p0 p1 p2) [])) t
        refine XS.iconst X11.here hx rfl (hb hby at_115) ?_
        show Steps p.tables e below (T11.setTop (mkF m 116 (la0_7 p0 p1 p2) [(.int (0 : Int32))])) t
        exact k
      exact (own_k (f := fun (z : Int32) => mkF m 116 #[.val (.int p0), .val (.int p1), .val (.int p2), .val (.int (p0 &&& (2147483647 : Int32))), .val (.int (p1 &&& (2147483647 : Int32))), .val (.int (v0_18 p0 p1 p2)), .val (.int (v0_29 p0 p1 p2)), .val (.int (v0_40 p0 p1 p2)), .val (.int (v0_49 p0 p1 p2)), .val (.int (v0_68 p0 p1 p2)), .val (.int (v0_87 p0 p1 p2)), .unset, .unset] [(.int z)]) (if_neg hc12) k)
  refine OEnd.go (T' := T11) (g' := (mkF m 122 (la0_8 p0 p1 p2) [(.int (p1 &&& (2147483647 : Int32))), (.int (v0_18 p0 p1 p2))])) (fun t k => ?_) ?_
  · show Steps p.tables e below (T11.setTop (mkF m 116 (la0_7 p0 p1 p2) [(.int (if (f2 (v0_49 p0 p1 p2) (v0_40 p0 p1 p2)) = (f2 (v0_18 p0 p1 p2) (f2 (v0_29 p0 p1 p2) (v0_40 p0 p1 p2))) then (1 : Int32) else (0 : Int32)))])) t
    refine XS.istore X11.here hx rfl (hb hby at_116) rfl (l' := (la0_8 p0 p1 p2)) rfl ?_
    show Steps p.tables e below (T11.setTop (mkF m 118 (la0_8 p0 p1 p2) [])) t
    refine XS.iload X11.here hx rfl (hb hby at_118) rfl ?_
    show Steps p.tables e below (T11.setTop (mkF m 120 (la0_8 p0 p1 p2) [(.int (v0_18 p0 p1 p2))])) t
    refine XS.iload X11.here hx rfl (hb hby at_120) rfl ?_
    show Steps p.tables e below (T11.setTop (mkF m 122 (la0_8 p0 p1 p2) [(.int (p1 &&& (2147483647 : Int32))), (.int (v0_18 p0 p1 p2))])) t
    exact k
  obtain ⟨_, _, ⟨T13, L13, k13, n13⟩, -, X13, ⟨Lc13, hQ13, l13, y13, z13⟩, st13⟩ := Jvm.LawKit.callS X11 hx (y := (⟨"com/example/induce/induce/learn/Incidence", "joined", "(II)I"⟩ : MethodName)) hown (mvT hZ (hw _ (List.mem_of_getElem? (i := 5) rfl))) (mvT hZ (hw _ (List.mem_of_getElem? (i := 6) rfl))) (mvT hZ (hw _ (List.mem_of_getElem? (i := 7) rfl))) (mvT hZ (hw _ (List.mem_of_getElem? (i := 8) rfl))) (by decide) (backOf (W := 0) (rm2 l Z a0 hw [] (v0_18 p0 p1 p2) (p1 &&& (2147483647 : Int32)) h0 n0 Z0 ) hZ (hw _ (List.mem_of_getElem? (i := 8) rfl)) (hw _ (List.mem_of_getElem? (i := 7) rfl)) (by decide) (by decide)) (g := (mkF m 122 (la0_8 p0 p1 p2) [(.int (p1 &&& (2147483647 : Int32))), (.int (v0_18 p0 p1 p2))])) rfl (by rw [hml]; rfl) (argsL := [(.int (v0_18 p0 p1 p2)), (.int (p1 &&& (2147483647 : Int32)))]) (rest := []) (lenOf pd__II_I rfl) rfl (by show 2 * 0 + _ ≤ _; exact Nat.le_of_eq rfl) (hb hby at_122) (fun _ _ => ⟨rfl, e11, (by decide : 0 + 0 ≤ _), (by decide : 0 + 0 ≤ _)⟩)
  dsimp only [Pt.U, Pt.locs, Pt.cells, Pt.slots] at X13 l13 y13 z13 st13 hQ13
  subst l13 y13 z13
  obtain ⟨rfl, N13q, e13⟩ := hQ13
  have N13 := Fr.app N11 N13q
  refine OEnd.go (g' := (mkF m 125 (la0_8 p0 p1 p2) [(.int (f2 (v0_18 p0 p1 p2) (p1 &&& (2147483647 : Int32))))])) st13 ?_
  refine OEnd.go (T' := T13) (g' := (mkF m 129 (la0_8 p0 p1 p2) [(.int (p1 &&& (2147483647 : Int32))), (.int (v0_18 p0 p1 p2)), (.int (f2 (v0_18 p0 p1 p2) (p1 &&& (2147483647 : Int32))))])) (fun t k => ?_) ?_
  · show Steps p.tables e below (T13.setTop (mkF m 125 (la0_8 p0 p1 p2) [(.int (f2 (v0_18 p0 p1 p2) (p1 &&& (2147483647 : Int32))))])) t
    refine XS.iload X13.here hx rfl (hb hby at_125) rfl ?_
    show Steps p.tables e below (T13.setTop (mkF m 127 (la0_8 p0 p1 p2) [(.int (v0_18 p0 p1 p2)), (.int (f2 (v0_18 p0 p1 p2) (p1 &&& (2147483647 : Int32))))])) t
    refine XS.iload X13.here hx rfl (hb hby at_127) rfl ?_
    show Steps p.tables e below (T13.setTop (mkF m 129 (la0_8 p0 p1 p2) [(.int (p1 &&& (2147483647 : Int32))), (.int (v0_18 p0 p1 p2)), (.int (f2 (v0_18 p0 p1 p2) (p1 &&& (2147483647 : Int32))))])) t
    exact k
  obtain ⟨_, _, ⟨T14, L14, k14, n14⟩, -, X14, ⟨Lc14, hQ14, l14, y14, z14⟩, st14⟩ := Jvm.LawKit.callS X13 hx (y := (⟨"com/example/induce/induce/learn/Incidence", "seenIn", "(II)I"⟩ : MethodName)) hown (mvT hZ (hw _ (List.mem_of_getElem? (i := 15) rfl))) (mvT hZ (hw _ (List.mem_of_getElem? (i := 16) rfl))) (mvT hZ (hw _ (List.mem_of_getElem? (i := 7) rfl))) (mvT hZ (hw _ (List.mem_of_getElem? (i := 17) rfl))) (by decide) (backOf (W := 1) (rm5 l Z a0 hw [] (v0_18 p0 p1 p2) (p1 &&& (2147483647 : Int32)) h0 n0 Z0 ) hZ (hw _ (List.mem_of_getElem? (i := 17) rfl)) (hw _ (List.mem_of_getElem? (i := 7) rfl)) (by decide) (by decide)) (g := (mkF m 129 (la0_8 p0 p1 p2) [(.int (p1 &&& (2147483647 : Int32))), (.int (v0_18 p0 p1 p2)), (.int (f2 (v0_18 p0 p1 p2) (p1 &&& (2147483647 : Int32))))])) rfl (by rw [hml]; rfl) (argsL := [(.int (v0_18 p0 p1 p2)), (.int (p1 &&& (2147483647 : Int32)))]) (rest := [(.int (f2 (v0_18 p0 p1 p2) (p1 &&& (2147483647 : Int32))))]) (lenOf pd__II_I rfl) rfl (by show 2 * 0 + _ ≤ _; exact Nat.le_of_eq rfl) (hb hby at_129) (fun _ _ => ⟨rfl, e13, (by decide : 0 + 0 ≤ _), (by decide : 0 + 0 ≤ _)⟩)
  dsimp only [Pt.U, Pt.locs, Pt.cells, Pt.slots] at X14 l14 y14 z14 st14 hQ14
  subst l14 y14 z14
  obtain ⟨rfl, N14q, e14⟩ := hQ14
  have N14 := Fr.app N13 N14q
  refine OEnd.go (g' := (mkF m 132 (la0_8 p0 p1 p2) [(.int (f5 (v0_18 p0 p1 p2) (p1 &&& (2147483647 : Int32)))), (.int (f2 (v0_18 p0 p1 p2) (p1 &&& (2147483647 : Int32))))])) st14 ?_
  refine OEnd.go (T' := T14) (g' := (mkF m 140 (la0_8 p0 p1 p2) [(.int (if (f2 (v0_18 p0 p1 p2) (p1 &&& (2147483647 : Int32))) = (f5 (v0_18 p0 p1 p2) (p1 &&& (2147483647 : Int32))) then (1 : Int32) else (0 : Int32)))])) (fun t k => ?_) ?_
  · show Steps p.tables e below (T14.setTop (mkF m 132 (la0_8 p0 p1 p2) [(.int (f5 (v0_18 p0 p1 p2) (p1 &&& (2147483647 : Int32)))), (.int (f2 (v0_18 p0 p1 p2) (p1 &&& (2147483647 : Int32))))])) t
    by_cases hc15 : (f2 (v0_18 p0 p1 p2) (p1 &&& (2147483647 : Int32))) = (f5 (v0_18 p0 p1 p2) (p1 &&& (2147483647 : Int32)))
    · skip
      refine XS.icmpNo X14.here hx rfl (hb hby at_132) rfl (teq (hc15)).2 ?_
      show Steps p.tables e below (T14.setTop (mkF m 135 (la0_8 p0 p1 p2) [])) t
      refine SGo.go (T' := T14) (g' := (mkF m 140 (la0_8 p0 p1 p2) [(.int (1 : Int32))])) (fun t k => ?_) ?_
      · show Steps p.tables e below (T14.setTop (mkF m 135 (la0_8 p0 p1 p2) [])) t
        refine XS.iconst X14.here hx rfl (hb hby at_135) ?_
        show Steps p.tables e below (T14.setTop (mkF m 136 (la0_8 p0 p1 p2) [(.int (1 : Int32))])) t
        refine XS.goto X14.here hx rfl (pc0 := 136) (pc' := 140) rfl (hb hby at_136) (by decide) (by decide) ?_
        show Steps p.tables e below (T14.setTop (mkF m 140 (la0_8 p0 p1 p2) [(.int (1 : Int32))])) t
        exact k
      exact (own_k (f := fun (z : Int32) => mkF m 140 #[.val (.int p0), .val (.int p1), .val (.int p2), .val (.int (p0 &&& (2147483647 : Int32))), .val (.int (p1 &&& (2147483647 : Int32))), .val (.int (v0_18 p0 p1 p2)), .val (.int (v0_29 p0 p1 p2)), .val (.int (v0_40 p0 p1 p2)), .val (.int (v0_49 p0 p1 p2)), .val (.int (v0_68 p0 p1 p2)), .val (.int (v0_87 p0 p1 p2)), .val (.int (v0_116 p0 p1 p2)), .unset] [(.int z)]) (if_pos hc15) k)
    · skip
      refine XS.icmpYes X14.here hx rfl (pc0 := 132) (pc' := 139) rfl (hb hby at_132) rfl (feq (hc15)).2 (by decide) (by decide) ?_
      show Steps p.tables e below (T14.setTop (mkF m 139 (la0_8 p0 p1 p2) [])) t
      refine SGo.go (T' := T14) (g' := (mkF m 140 (la0_8 p0 p1 p2) [(.int (0 : Int32))])) (fun t k => ?_) ?_
      · show Steps p.tables e below (T14.setTop (mkF m 139 (la0_8 p0 p1 p2) [])) t
        refine XS.iconst X14.here hx rfl (hb hby at_139) ?_
        show Steps p.tables e below (T14.setTop (mkF m 140 (la0_8 p0 p1 p2) [(.int (0 : Int32))])) t
        exact k
      exact (own_k (f := fun (z : Int32) => mkF m 140 #[.val (.int p0), .val (.int p1), .val (.int p2), .val (.int (p0 &&& (2147483647 : Int32))), .val (.int (p1 &&& (2147483647 : Int32))), .val (.int (v0_18 p0 p1 p2)), .val (.int (v0_29 p0 p1 p2)), .val (.int (v0_40 p0 p1 p2)), .val (.int (v0_49 p0 p1 p2)), .val (.int (v0_68 p0 p1 p2)), .val (.int (v0_87 p0 p1 p2)), .val (.int (v0_116 p0 p1 p2)), .unset] [(.int z)]) (if_neg hc15) k)
  refine OEnd.go (T' := T14) (g' := (mkF m 144 (la0_9 p0 p1 p2) [(.int (v0_68 p0 p1 p2))])) (fun t k => ?_) ?_
  · show Steps p.tables e below (T14.setTop (mkF m 140 (la0_8 p0 p1 p2) [(.int (if (f2 (v0_18 p0 p1 p2) (p1 &&& (2147483647 : Int32))) = (f5 (v0_18 p0 p1 p2) (p1 &&& (2147483647 : Int32))) then (1 : Int32) else (0 : Int32)))])) t
    refine XS.istore X14.here hx rfl (hb hby at_140) rfl (l' := (la0_9 p0 p1 p2)) rfl ?_
    show Steps p.tables e below (T14.setTop (mkF m 142 (la0_9 p0 p1 p2) [])) t
    refine XS.iload X14.here hx rfl (hb hby at_142) rfl ?_
    show Steps p.tables e below (T14.setTop (mkF m 144 (la0_9 p0 p1 p2) [(.int (v0_68 p0 p1 p2))])) t
    exact k
  refine OEnd.go (T' := T14) (g' := (mkF m 167 (la0_9 p0 p1 p2) [(.int (if (v0_68 p0 p1 p2) = (0 : Int32) then (0 : Int32) else (if (v0_87 p0 p1 p2) = (0 : Int32) then (0 : Int32) else (if (v0_116 p0 p1 p2) = (0 : Int32) then (0 : Int32) else (if (v0_140 p0 p1 p2) = (0 : Int32) then (0 : Int32) else (1 : Int32))))))])) (fun t k => ?_) ?_
  · show Steps p.tables e below (T14.setTop (mkF m 144 (la0_9 p0 p1 p2) [(.int (v0_68 p0 p1 p2))])) t
    by_cases hc16 : (v0_68 p0 p1 p2) = (0 : Int32)
    · skip
      refine XS.ifYes X14.here hx rfl (pc0 := 144) (pc' := 166) rfl (hb hby at_144) rfl ((if0 _ _).trans (teq (hc16)).1) (by decide) (by decide) ?_
      show Steps p.tables e below (T14.setTop (mkF m 166 (la0_9 p0 p1 p2) [])) t
      refine SGo.go (T' := T14) (g' := (mkF m 167 (la0_9 p0 p1 p2) [(.int (0 : Int32))])) (fun t k => ?_) ?_
      · show Steps p.tables e below (T14.setTop (mkF m 166 (la0_9 p0 p1 p2) [])) t
        refine XS.iconst X14.here hx rfl (hb hby at_166) ?_
        show Steps p.tables e below (T14.setTop (mkF m 167 (la0_9 p0 p1 p2) [(.int (0 : Int32))])) t
        exact k
      exact (own_k (f := fun (z : Int32) => mkF m 167 #[.val (.int p0), .val (.int p1), .val (.int p2), .val (.int (p0 &&& (2147483647 : Int32))), .val (.int (p1 &&& (2147483647 : Int32))), .val (.int (v0_18 p0 p1 p2)), .val (.int (v0_29 p0 p1 p2)), .val (.int (v0_40 p0 p1 p2)), .val (.int (v0_49 p0 p1 p2)), .val (.int (v0_68 p0 p1 p2)), .val (.int (v0_87 p0 p1 p2)), .val (.int (v0_116 p0 p1 p2)), .val (.int (v0_140 p0 p1 p2))] [(.int z)]) (if_pos hc16) k)
    · skip
      refine XS.ifNo X14.here hx rfl (hb hby at_144) rfl ((if0 _ _).trans (feq (hc16)).1) ?_
      show Steps p.tables e below (T14.setTop (mkF m 147 (la0_9 p0 p1 p2) [])) t
      refine SGo.go (T' := T14) (g' := (mkF m 149 (la0_9 p0 p1 p2) [(.int (v0_87 p0 p1 p2))])) (fun t k => ?_) ?_
      · show Steps p.tables e below (T14.setTop (mkF m 147 (la0_9 p0 p1 p2) [])) t
        refine XS.iload X14.here hx rfl (hb hby at_147) rfl ?_
        show Steps p.tables e below (T14.setTop (mkF m 149 (la0_9 p0 p1 p2) [(.int (v0_87 p0 p1 p2))])) t
        exact k
      by_cases hc17 : (v0_87 p0 p1 p2) = (0 : Int32)
      · skip
        refine XS.ifYes X14.here hx rfl (pc0 := 149) (pc' := 166) rfl (hb hby at_149) rfl ((if0 _ _).trans (teq (hc17)).1) (by decide) (by decide) ?_
        show Steps p.tables e below (T14.setTop (mkF m 166 (la0_9 p0 p1 p2) [])) t
        refine SGo.go (T' := T14) (g' := (mkF m 167 (la0_9 p0 p1 p2) [(.int (0 : Int32))])) (fun t k => ?_) ?_
        · show Steps p.tables e below (T14.setTop (mkF m 166 (la0_9 p0 p1 p2) [])) t
          refine XS.iconst X14.here hx rfl (hb hby at_166) ?_
          show Steps p.tables e below (T14.setTop (mkF m 167 (la0_9 p0 p1 p2) [(.int (0 : Int32))])) t
          exact k
        exact (own_k (f := fun (z : Int32) => mkF m 167 #[.val (.int p0), .val (.int p1), .val (.int p2), .val (.int (p0 &&& (2147483647 : Int32))), .val (.int (p1 &&& (2147483647 : Int32))), .val (.int (v0_18 p0 p1 p2)), .val (.int (v0_29 p0 p1 p2)), .val (.int (v0_40 p0 p1 p2)), .val (.int (v0_49 p0 p1 p2)), .val (.int (v0_68 p0 p1 p2)), .val (.int (v0_87 p0 p1 p2)), .val (.int (v0_116 p0 p1 p2)), .val (.int (v0_140 p0 p1 p2))] [(.int z)]) ((if_neg hc16).trans (if_pos hc17)) k)
      · skip
        refine XS.ifNo X14.here hx rfl (hb hby at_149) rfl ((if0 _ _).trans (feq (hc17)).1) ?_
        show Steps p.tables e below (T14.setTop (mkF m 152 (la0_9 p0 p1 p2) [])) t
        refine SGo.go (T' := T14) (g' := (mkF m 154 (la0_9 p0 p1 p2) [(.int (v0_116 p0 p1 p2))])) (fun t k => ?_) ?_
        · show Steps p.tables e below (T14.setTop (mkF m 152 (la0_9 p0 p1 p2) [])) t
          refine XS.iload X14.here hx rfl (hb hby at_152) rfl ?_
          show Steps p.tables e below (T14.setTop (mkF m 154 (la0_9 p0 p1 p2) [(.int (v0_116 p0 p1 p2))])) t
          exact k
        by_cases hc18 : (v0_116 p0 p1 p2) = (0 : Int32)
        · skip
          refine XS.ifYes X14.here hx rfl (pc0 := 154) (pc' := 166) rfl (hb hby at_154) rfl ((if0 _ _).trans (teq (hc18)).1) (by decide) (by decide) ?_
          show Steps p.tables e below (T14.setTop (mkF m 166 (la0_9 p0 p1 p2) [])) t
          refine SGo.go (T' := T14) (g' := (mkF m 167 (la0_9 p0 p1 p2) [(.int (0 : Int32))])) (fun t k => ?_) ?_
          · show Steps p.tables e below (T14.setTop (mkF m 166 (la0_9 p0 p1 p2) [])) t
            refine XS.iconst X14.here hx rfl (hb hby at_166) ?_
            show Steps p.tables e below (T14.setTop (mkF m 167 (la0_9 p0 p1 p2) [(.int (0 : Int32))])) t
            exact k
          exact (own_k (f := fun (z : Int32) => mkF m 167 #[.val (.int p0), .val (.int p1), .val (.int p2), .val (.int (p0 &&& (2147483647 : Int32))), .val (.int (p1 &&& (2147483647 : Int32))), .val (.int (v0_18 p0 p1 p2)), .val (.int (v0_29 p0 p1 p2)), .val (.int (v0_40 p0 p1 p2)), .val (.int (v0_49 p0 p1 p2)), .val (.int (v0_68 p0 p1 p2)), .val (.int (v0_87 p0 p1 p2)), .val (.int (v0_116 p0 p1 p2)), .val (.int (v0_140 p0 p1 p2))] [(.int z)]) ((if_neg hc16).trans ((if_neg hc17).trans (if_pos hc18))) k)
        · skip
          refine XS.ifNo X14.here hx rfl (hb hby at_154) rfl ((if0 _ _).trans (feq (hc18)).1) ?_
          show Steps p.tables e below (T14.setTop (mkF m 157 (la0_9 p0 p1 p2) [])) t
          refine SGo.go (T' := T14) (g' := (mkF m 159 (la0_9 p0 p1 p2) [(.int (v0_140 p0 p1 p2))])) (fun t k => ?_) ?_
          · show Steps p.tables e below (T14.setTop (mkF m 157 (la0_9 p0 p1 p2) [])) t
            refine XS.iload X14.here hx rfl (hb hby at_157) rfl ?_
            show Steps p.tables e below (T14.setTop (mkF m 159 (la0_9 p0 p1 p2) [(.int (v0_140 p0 p1 p2))])) t
            exact k
          by_cases hc19 : (v0_140 p0 p1 p2) = (0 : Int32)
          · skip
            refine XS.ifYes X14.here hx rfl (pc0 := 159) (pc' := 166) rfl (hb hby at_159) rfl ((if0 _ _).trans (teq (hc19)).1) (by decide) (by decide) ?_
            show Steps p.tables e below (T14.setTop (mkF m 166 (la0_9 p0 p1 p2) [])) t
            refine SGo.go (T' := T14) (g' := (mkF m 167 (la0_9 p0 p1 p2) [(.int (0 : Int32))])) (fun t k => ?_) ?_
            · show Steps p.tables e below (T14.setTop (mkF m 166 (la0_9 p0 p1 p2) [])) t
              refine XS.iconst X14.here hx rfl (hb hby at_166) ?_
              show Steps p.tables e below (T14.setTop (mkF m 167 (la0_9 p0 p1 p2) [(.int (0 : Int32))])) t
              exact k
            exact (own_k (f := fun (z : Int32) => mkF m 167 #[.val (.int p0), .val (.int p1), .val (.int p2), .val (.int (p0 &&& (2147483647 : Int32))), .val (.int (p1 &&& (2147483647 : Int32))), .val (.int (v0_18 p0 p1 p2)), .val (.int (v0_29 p0 p1 p2)), .val (.int (v0_40 p0 p1 p2)), .val (.int (v0_49 p0 p1 p2)), .val (.int (v0_68 p0 p1 p2)), .val (.int (v0_87 p0 p1 p2)), .val (.int (v0_116 p0 p1 p2)), .val (.int (v0_140 p0 p1 p2))] [(.int z)]) ((if_neg hc16).trans ((if_neg hc17).trans ((if_neg hc18).trans (if_pos hc19)))) k)
          · skip
            refine XS.ifNo X14.here hx rfl (hb hby at_159) rfl ((if0 _ _).trans (feq (hc19)).1) ?_
            show Steps p.tables e below (T14.setTop (mkF m 162 (la0_9 p0 p1 p2) [])) t
            refine SGo.go (T' := T14) (g' := (mkF m 167 (la0_9 p0 p1 p2) [(.int (1 : Int32))])) (fun t k => ?_) ?_
            · show Steps p.tables e below (T14.setTop (mkF m 162 (la0_9 p0 p1 p2) [])) t
              refine XS.iconst X14.here hx rfl (hb hby at_162) ?_
              show Steps p.tables e below (T14.setTop (mkF m 163 (la0_9 p0 p1 p2) [(.int (1 : Int32))])) t
              refine XS.goto X14.here hx rfl (pc0 := 163) (pc' := 167) rfl (hb hby at_163) (by decide) (by decide) ?_
              show Steps p.tables e below (T14.setTop (mkF m 167 (la0_9 p0 p1 p2) [(.int (1 : Int32))])) t
              exact k
            exact (own_k (f := fun (z : Int32) => mkF m 167 #[.val (.int p0), .val (.int p1), .val (.int p2), .val (.int (p0 &&& (2147483647 : Int32))), .val (.int (p1 &&& (2147483647 : Int32))), .val (.int (v0_18 p0 p1 p2)), .val (.int (v0_29 p0 p1 p2)), .val (.int (v0_40 p0 p1 p2)), .val (.int (v0_49 p0 p1 p2)), .val (.int (v0_68 p0 p1 p2)), .val (.int (v0_87 p0 p1 p2)), .val (.int (v0_116 p0 p1 p2)), .val (.int (v0_140 p0 p1 p2))] [(.int z)]) ((if_neg hc16).trans ((if_neg hc17).trans ((if_neg hc18).trans (if_neg hc19)))) k)
  exact OEnd.nar X14 hx (t := .boolean) Bd.returns (by simp) hlk (hb hby at_167) ⟨(congrArg (fun z => some (Value.int (nar .boolean z))) (own_plain p0 p1 p2)), N14⟩ (by decide) (by decide)
set_option maxRecDepth 65536 in
set_option maxHeartbeats 40000000 in
theorem comes_1 {Post : Tables → Env → Array Value → State → Outcome → State → Prop} (hpost : ∀ tb e args s v u, (limb_1_1.after args s (.returned v) u = true ∧ limb_1_2.after args s (.returned v) u = true ∧ True) → FrameEnd s (.returned v) u (Jvm.fieldLocs frame_1_writes args s ++ Jvm.arrayLocs frame_1_arrays args s ++ Jvm.staticLocs frame_1_statics s) 0 0 → Post tb e args s (.returned v) u) :
    ArmFor flags0 classFile x code maxLocals ret World_1 tables_1 room_1 Calls_1 rest_1 Pre_1 Post := by
  intro l hfl _ _ p e ha hc hk s m args below hf hA hF happ hP
  obtain ⟨hcalls, hrest, hpre⟩ := hP
  obtain ⟨-, -, -, hnamed, -, -, -, hat⟩ := (Spec.applies_iff hf).mp happ
  obtain ⟨hg, hn⟩ := and_e (Cond.before_iff.mp (show (Jvm.Cond.and given_1 narrow_1).before args s = true from hpre))
  obtain ⟨c1, c2⟩ := and_e hg
  obtain ⟨c3, c4⟩ := and_e c2
  obtain ⟨c5, c6⟩ := and_e c4
  obtain ⟨w0, w1, w2, rfl⟩ : ∃ w0 w1 w2 : Value, args = #[w0, w1, w2] := by
    have hs : args.size = 3 := by simpa [Cond.value, given_1] using c1
    obtain ⟨L⟩ := args
    match L, hs with
    | [w0, w1, w2], _ => exact ⟨w0, w1, w2, rfl⟩
  have hw := fun d (hd : d ∈ tables_1) => atoms_spec (ws := Jvm.Cond.code x code maxLocals ret :: tables_1) hat d (List.mem_cons_of_mem _ hd)
  obtain ⟨i0, ei0⟩ := is_v c3
  obtain rfl : w0 = (.int i0) := Option.some.inj ei0
  obtain ⟨i1, ei1⟩ := is_v c5
  obtain rfl : w1 = (.int i1) := Option.some.inj ei1
  obtain ⟨i2, ei2⟩ := is_v c6
  obtain rfl : w2 = (.int i2) := Option.some.inj ei2
  obtain ⟨n, o, h1, h2, h3, _, L, rfl, ⟨rfl, N⟩, hq⟩ := rm0 l s _ hw tables_1 i0 i1 i2 s.heap s.heap.size (Nat.le_refl _)  p e ha hc hk s m _ below hf ((Spec.applies_iff_loose hf).mp happ).1 ⟨rfl, State.Warmed39.refl s, rfl⟩ trivial
  refine ⟨n, _, h1, h2, h3, hpost _ _ _ _ _ _ ⟨Cond.after_iff.mpr rfl, Cond.after_iff.mpr (eq_i res_at (Term.int_eval (1)) rfl), trivial⟩ ⟨hq.1, hq.2.1, (hq.2.2.sift fun y hy => Or.inr (N y hy)).mono (by decide) (by decide)⟩⟩
theorem main_1_1 : Claimed_1_1 := comes_1 fun _ _ _ _ _ _ h hF => ⟨h.1, hF⟩
theorem main_1_2 : Claimed_1_2 := comes_1 fun _ _ _ _ _ _ h hF => ⟨h.2.1, hF⟩
end Jvm.Pilot.@@N@@
namespace Jvm.Pilot.@@N@@
open Jvm Jvm.ClassFile Sem Op Lib Jvm.Free Jvm.Stand Jvm.Pilot.@@N@@.Jvm.D
/-! MADE BY PROGRAM (witnessworld.py) out of the Statement's table words and the real class files: 9 classes; the members and pool entries that the words name. The judged class is class 1, her method 4. -/
namespace start1
open Jvm.ClassFile
def u (s : String) : CpInfo := .utf8 (stringToUtf16 s)
/-- a pool by its gaps: so many unusable entries, then the entry; so many at the end -/
def gap : Nat → List CpInfo → List CpInfo
  | 0, r => r
  | n + 1, r => .unusable :: gap n r
def poolList (es : List (Nat × CpInfo)) (last : Nat) : List CpInfo := es.foldr (fun e r => gap e.1 (e.2 :: r)) (gap last [])
def pool (es : List (Nat × CpInfo)) (last : Nat) : Array CpInfo := ⟨poolList es last⟩
def fileOf (pool : Array CpInfo) (this : Nat) (attrs : Array Attribute := #[]) (ms : Array MethodInfo := #[]) (fl : Nat := 33) (sup : Nat := 0) (ifs : Array Nat := #[]) (fds : Array FieldInfo := #[]) : ClassFile where
  minorVersion := 0
  majorVersion := 65
  constantPool := pool
  accessFlags := fl
  thisClass := this
  superClass := sup
  interfaces := ifs
  fields := fds
  methods := ms
  attributes := attrs
def plain (name : String) (sup : Option ClassId) : Class where
  name := name
  kind := .ordinary
  loader := none
  accessFlags := 33
  super := sup
  interfaces := #[]
  cf := none
  fields := #[]
  methods := #[]
  instanceTypes := #[]
  staticTypes := #[]
  resolved := #[]
  callSites := []
  init := .initialized
  statics := none
  mirror := none

def pool0 : Array CpInfo := pool [(5, u "<init>"), (0, u "()V"), (1, .class_ 10), (1, u "java/lang/Object")] 113

def k0m0 : Method := { name := "<init>", desc := "()V", sig := { parameters := [], returnType := none }, accessFlags := 1, code := none }
/-- java/lang/Object -/
def k0 : Class := { plain "java/lang/Object" none with
  accessFlags := 33
  interfaces := #[]
  cf := some (fileOf pool0 8 #[] #[{ accessFlags := 1, nameIndex := 5, descriptorIndex := 6, attributes := #[] }] 33 0 #[] #[])
  fields := #[]
  methods := #[k0m0]
  instanceTypes := #[]
  staticTypes := #[]
  resolved := Array.replicate 124 none
  statics := none }

def pool1 : Array CpInfo := pool [(2, .class_ 4), (1, u "java/lang/Object"), (0, u "<init>"), (0, u "()V"), (0, .class_ 8), (0, u "com/example/induce/induce/learn/Incidence"), (0, .methodref 10 11), (0, .class_ 12), (0, .nameAndType 13 14), (0, u "com/example/induce/induce/learn/IncidenceJoinedPinLaw"), (0, u "size"), (0, u "(I)I"), (0, .integer 2147483647), (0, .methodref 10 17), (0, .nameAndType 18 19), (0, u "pick"), (0, u "(III)I"), (0, .methodref 7 21), (0, .nameAndType 22 23), (0, u "joined"), (0, u "(II)I"), (0, .methodref 10 25), (0, .nameAndType 26 23), (0, u "union"), (0, .methodref 7 28), (0, .nameAndType 29 23), (0, u "seenIn"), (3, u "law"), (0, u "(III)Z")] 2

def k1m0 : Method := { name := "<init>", desc := "()V", sig := { parameters := [], returnType := none }, accessFlags := 1, code := none }
def k1c1 : Code := { maxStack := 2, maxLocals := 4, code := method_2_code, exceptionTable := #[], attributes := #[] }
def k1m1 : Method := { name := "pick", desc := "(III)I", sig := { parameters := [.int, .int, .int], returnType := some .int }, accessFlags := 10, code := some k1c1 }
def k1c2 : Code := { maxStack := 2, maxLocals := 1, code := method_3_code, exceptionTable := #[], attributes := #[] }
def k1m2 : Method := { name := "size", desc := "(I)I", sig := { parameters := [.int], returnType := some .int }, accessFlags := 10, code := some k1c2 }
def k1c3 : Code := { maxStack := 2, maxLocals := 2, code := method_4_code, exceptionTable := #[], attributes := #[] }
def k1m3 : Method := { name := "union", desc := "(II)I", sig := { parameters := [.int, .int], returnType := some .int }, accessFlags := 10, code := some k1c3 }
def k1c4 : Code := { maxStack := 4, maxLocals := 13, code := code, exceptionTable := #[], attributes := #[] }
def k1m4 : Method := { name := "law", desc := "(III)Z", sig := { parameters := [.int, .int, .int], returnType := some .boolean }, accessFlags := 9, code := some k1c4 }
/-- com/example/induce/induce/learn/IncidenceJoinedPinLaw -/
def k1 : Class := { plain "com/example/induce/induce/learn/IncidenceJoinedPinLaw" (some 0) with
  accessFlags := 49
  interfaces := #[]
  cf := some (fileOf pool1 10 #[] #[{ accessFlags := 1, nameIndex := 5, descriptorIndex := 6, attributes := #[] }, { accessFlags := 10, nameIndex := 18, descriptorIndex := 19, attributes := #[] }, { accessFlags := 10, nameIndex := 13, descriptorIndex := 14, attributes := #[] }, { accessFlags := 10, nameIndex := 26, descriptorIndex := 23, attributes := #[] }, { accessFlags := 9, nameIndex := 33, descriptorIndex := 34, attributes := #[] }] 49 2 #[] #[])
  fields := #[]
  methods := #[k1m0, k1m1, k1m2, k1m3, k1m4]
  instanceTypes := #[]
  staticTypes := #[]
  resolved := Array.replicate 37 none
  statics := none }

def pool2 : Array CpInfo := pool [(2, .class_ 4), (1, u "java/lang/Object"), (0, u "<init>"), (0, u "()V"), (0, .class_ 8), (0, u "com/example/induce/induce/learn/Incidence"), (0, u "NONE"), (0, u "I"), (2, u "SEVERAL"), (3, u "seenIn"), (0, u "(II)I"), (1, u "joined")] 4

def k2m0 : Method := { name := "<init>", desc := "()V", sig := { parameters := [], returnType := none }, accessFlags := 2, code := none }
def k2c1 : Code := { maxStack := 2, maxLocals := 2, code := prog_37_method_2_code, exceptionTable := #[], attributes := #[] }
def k2m1 : Method := { name := "seenIn", desc := "(II)I", sig := { parameters := [.int, .int], returnType := some .int }, accessFlags := 8, code := some k2c1 }
def k2c2 : Code := { maxStack := 2, maxLocals := 3, code := prog_37_method_3_code, exceptionTable := #[], attributes := #[] }
def k2m2 : Method := { name := "joined", desc := "(II)I", sig := { parameters := [.int, .int], returnType := some .int }, accessFlags := 8, code := some k2c2 }
/-- com/example/induce/induce/learn/Incidence -/
def k2 : Class := { plain "com/example/induce/induce/learn/Incidence" (some 0) with
  accessFlags := 32
  interfaces := #[]
  cf := some (fileOf pool2 7 #[] #[{ accessFlags := 2, nameIndex := 5, descriptorIndex := 6, attributes := #[] }, { accessFlags := 8, nameIndex := 17, descriptorIndex := 18, attributes := #[] }, { accessFlags := 8, nameIndex := 20, descriptorIndex := 18, attributes := #[] }] 32 2 #[] #[{ accessFlags := 24, nameIndex := 9, descriptorIndex := 10, attributes := #[] }, { accessFlags := 24, nameIndex := 13, descriptorIndex := 10, attributes := #[] }])
  fields := #[{ name := "NONE", type := .int, accessFlags := 24, slot := 0, constantValue := 0 }, { name := "SEVERAL", type := .int, accessFlags := 24, slot := 1, constantValue := 0 }]
  methods := #[k2m0, k2m1, k2m2]
  instanceTypes := #[]
  staticTypes := #[.int, .int]
  resolved := Array.replicate 25 none
  statics := none }

def pool3 : Array CpInfo := pool [(1, u "java/lang/Cloneable"), (0, .class_ 1), (0, u "java/lang/Object"), (0, .class_ 3)] 3

/-- java/lang/Cloneable -/
def k3 : Class := { plain "java/lang/Cloneable" (some 0) with
  accessFlags := 1537
  interfaces := #[]
  cf := some (fileOf pool3 2 #[] #[] 1537 4 #[] #[])
  fields := #[]
  methods := #[]
  instanceTypes := #[]
  staticTypes := #[]
  resolved := Array.replicate 8 none
  statics := none }

def pool4 : Array CpInfo := pool [(1, u "java/io/Serializable"), (0, .class_ 1), (0, u "java/lang/Object"), (0, .class_ 3)] 3

/-- java/io/Serializable -/
def k4 : Class := { plain "java/io/Serializable" (some 0) with
  accessFlags := 1537
  interfaces := #[]
  cf := some (fileOf pool4 2 #[] #[] 1537 4 #[] #[])
  fields := #[]
  methods := #[]
  instanceTypes := #[]
  staticTypes := #[]
  resolved := Array.replicate 8 none
  statics := none }

/-- the primitive byte -/
def k5 : Class := { plain "byte" none with kind := .primitive 'B', accessFlags := 0x411 }
/-- [B -/
def k6 : Class := { plain "[B" (some 0) with kind := .array 5 .byte, interfaces := #[3, 4], accessFlags := 1041 }

/-- the primitive int -/
def k7 : Class := { plain "int" none with kind := .primitive 'I', accessFlags := 0x411 }
/-- [I -/
def k8 : Class := { plain "[I" (some 0) with kind := .array 7 .int, interfaces := #[3, 4], accessFlags := 1041 }

def heap : Heap := #[]
def classes : Array Class := #[k0, k1, k2, k3, k4, k5, k6, k7, k8]
def interned : List (Array UInt16 × Addr) := []
def slotsUsed : Nat := 0
def theMethod : MethodId := ⟨1, 4⟩
def args0 : Array Value := #[.int 5, .int 7, .int 9]
def aboutOver (below : List Frame) : State where
  vm := { classes := classes, interned := interned.toArray }
  heap := heap
  slotsUsed := slotsUsed
  threads := #[{ frames := .invoking theMethod args0 :: below }]
def below0 : List Frame := [.native { method := ⟨0, 0⟩, args := #[] }]
def about1 : State := aboutOver below0
def p0 : Program := .bare "" "" ""
def e0 : Env := launch0.env 0 0 0
theorem w_frames : about1.frames = Frame.invoking theMethod args0 :: below0 := rfl
set_option maxRecDepth 65536 in
theorem w_args : argsFit about1.vm theMethod args0 = true := by decide +kernel
set_option maxRecDepth 65536 in
theorem w_heap : heapFits about1 = true := by decide +kernel
set_option maxRecDepth 65536 in
theorem w_runnable : about1.curStatus? = some .runnable := by decide +kernel
set_option maxRecDepth 65536 in
theorem w_alone : about1.alone = true := by decide +kernel
set_option maxRecDepth 65536 in
theorem w_named : about1.methodNamed? x = some theMethod := by decide +kernel
set_option maxRecDepth 65536 in
theorem w_hears : about1.hears theMethod below0 = true := by decide +kernel
set_option maxRecDepth 65536 in
theorem w_ripe : about1.ripe theMethod args0 below0 = true := by decide +kernel
theorem w_running : about1.status = .running := rfl
set_option maxRecDepth 65536 in
theorem w_room : about1.hasRoom e0.platform room_1 = true :=
  launch0.hasRoom_least _ room_1 (by decide +kernel) (by decide +kernel) (by decide +kernel) (by decide +kernel) (by decide +kernel) (by decide +kernel)
theorem allAtoms_all (ts : List Jvm.Cond) (a : Array Jvm.Value) (st : Jvm.State) : (allAtoms ts).before a st = ts.all (fun c => c.before a st) := by
  induction ts with
  | nil => rfl
  | cons c t ih =>
    show (Jvm.Cond.and c (allAtoms t)).before a st = _
    rw [Jvm.Cond.before_and, ih, List.all_cons]
def words1 : List Jvm.Cond := Jvm.Cond.code x code maxLocals ret :: tables_1
/-- a 'code' word, met by the world's own term for the bytes: nothing is compared byte by byte -/
theorem code_word {y : MethodName} {bytes : ByteArray} {mx : Nat} {rt : Option FieldType} {a : Array Value} {s : State} {m : MethodId} {meth : Method} {c : Code} (h1 : s.methodNamed? y = some m) (h2 : s.vm.method? m = some meth) (h3 : meth.code = some c) (h4 : c.code = bytes)
    (h5 : (c.maxLocals == mx && c.exceptionTable.isEmpty && decide (c.maxStack ≤ mostOperands) && decide (meth.sig.returnType = rt) && !meth.locks && decide (parseMethodDescriptor y.desc = some meth.sig)) = true) : (Jvm.Cond.code y bytes mx rt).before a s = true := by
  simp only [Bool.and_eq_true, beq_iff_eq, Bool.not_eq_true', decide_eq_true_eq] at h5
  obtain ⟨⟨⟨⟨⟨g1, g2⟩, g3⟩, g4⟩, g5⟩, g6⟩ := h5
  simp [Cond.before, Cond.holds, Cond.value, h1, h2, h3, h4, g1, g2, g3, g4, g5, g6]
def isCode : Jvm.Cond → Bool
  | .code _ _ _ _ => true
  | _ => false
theorem all_split {L : List Jvm.Cond} {P : Jvm.Cond → Bool} (h1 : L.all (fun c => isCode c || P c) = true) (h2 : ∀ c ∈ L.filter isCode, P c = true) : L.all P = true := by
  refine List.all_eq_true.mpr fun c hc => ?_
  have h := List.all_eq_true.mp h1 c hc
  rcases Bool.eq_false_or_eq_true (isCode c) with hi | hi
  · exact h2 c (List.mem_filter.mpr ⟨hc, hi⟩)
  · simpa [hi] using h
set_option maxRecDepth 65536 in
theorem w_c0 : (Jvm.Cond.code x code maxLocals ret).before args0 about1 = true := code_word (m := ⟨1, 4⟩) (meth := k1m4) (c := k1c4) (by decide +kernel) rfl rfl rfl (by decide +kernel)
set_option maxRecDepth 65536 in
theorem w_c1 : (Jvm.Cond.code ({ cls := "com/example/induce/induce/learn/IncidenceJoinedPinLaw", name := "pick", desc := "(III)I" } : Jvm.MethodName) method_2_code (4 : Nat) (Option.some Jvm.ClassFile.FieldType.int)).before args0 about1 = true := code_word (m := ⟨1, 1⟩) (meth := k1m1) (c := k1c1) (by decide +kernel) rfl rfl rfl (by decide +kernel)
set_option maxRecDepth 65536 in
theorem w_c2 : (Jvm.Cond.code ({ cls := "com/example/induce/induce/learn/Incidence", name := "joined", desc := "(II)I" } : Jvm.MethodName) prog_37_method_3_code (3 : Nat) (Option.some Jvm.ClassFile.FieldType.int)).before args0 about1 = true := code_word (m := ⟨2, 2⟩) (meth := k2m2) (c := k2c2) (by decide +kernel) rfl rfl rfl (by decide +kernel)
set_option maxRecDepth 65536 in
theorem w_c3 : (Jvm.Cond.code ({ cls := "com/example/induce/induce/learn/IncidenceJoinedPinLaw", name := "union", desc := "(II)I" } : Jvm.MethodName) method_4_code (2 : Nat) (Option.some Jvm.ClassFile.FieldType.int)).before args0 about1 = true := code_word (m := ⟨1, 3⟩) (meth := k1m3) (c := k1c3) (by decide +kernel) rfl rfl rfl (by decide +kernel)
set_option maxRecDepth 65536 in
theorem w_c4 : (Jvm.Cond.code ({ cls := "com/example/induce/induce/learn/IncidenceJoinedPinLaw", name := "size", desc := "(I)I" } : Jvm.MethodName) method_3_code (1 : Nat) (Option.some Jvm.ClassFile.FieldType.int)).before args0 about1 = true := code_word (m := ⟨1, 2⟩) (meth := k1m2) (c := k1c2) (by decide +kernel) rfl rfl rfl (by decide +kernel)
set_option maxRecDepth 65536 in
theorem w_c5 : (Jvm.Cond.code ({ cls := "com/example/induce/induce/learn/Incidence", name := "seenIn", desc := "(II)I" } : Jvm.MethodName) prog_37_method_2_code (2 : Nat) (Option.some Jvm.ClassFile.FieldType.int)).before args0 about1 = true := code_word (m := ⟨2, 1⟩) (meth := k2m1) (c := k2c1) (by decide +kernel) rfl rfl rfl (by decide +kernel)
def codes1 : List Jvm.Cond := [Jvm.Cond.code x code maxLocals ret, Jvm.Cond.code ({ cls := "com/example/induce/induce/learn/IncidenceJoinedPinLaw", name := "pick", desc := "(III)I" } : Jvm.MethodName) method_2_code (4 : Nat) (Option.some Jvm.ClassFile.FieldType.int), Jvm.Cond.code ({ cls := "com/example/induce/induce/learn/Incidence", name := "joined", desc := "(II)I" } : Jvm.MethodName) prog_37_method_3_code (3 : Nat) (Option.some Jvm.ClassFile.FieldType.int), Jvm.Cond.code ({ cls := "com/example/induce/induce/learn/IncidenceJoinedPinLaw", name := "union", desc := "(II)I" } : Jvm.MethodName) method_4_code (2 : Nat) (Option.some Jvm.ClassFile.FieldType.int), Jvm.Cond.code ({ cls := "com/example/induce/induce/learn/IncidenceJoinedPinLaw", name := "size", desc := "(I)I" } : Jvm.MethodName) method_3_code (1 : Nat) (Option.some Jvm.ClassFile.FieldType.int), Jvm.Cond.code ({ cls := "com/example/induce/induce/learn/Incidence", name := "seenIn", desc := "(II)I" } : Jvm.MethodName) prog_37_method_2_code (2 : Nat) (Option.some Jvm.ClassFile.FieldType.int)]
set_option maxRecDepth 65536 in
theorem codes_eq : words1.filter isCode = codes1 := rfl
theorem w_codes : ∀ c ∈ words1.filter isCode, c.before args0 about1 = true := by
  rw [codes_eq]
  intro c hc
  simp only [codes1, List.mem_cons, List.not_mem_nil, or_false] at hc
  rcases hc with rfl | rfl | rfl | rfl | rfl | rfl
  · exact w_c0
  · exact w_c1
  · exact w_c2
  · exact w_c3
  · exact w_c4
  · exact w_c5
set_option maxRecDepth 65536 in
theorem w_t1 : words1.all (fun c => isCode c || c.before args0 about1) = true := by decide +kernel
theorem w_tables : (allAtoms (Jvm.Cond.code x code maxLocals ret :: tables_1)).before args0 about1 = true := by
  rw [allAtoms_all]
  show words1.all (fun c => c.before args0 about1) = true
  refine all_split ?_ w_codes
  rw [w_t1]
set_option maxRecDepth 65536 in
theorem w_case : (Jvm.Cond.and given_1 narrow_1).before args0 about1 = true := by decide +kernel
theorem w_applies : (headSpec (Jvm.Cond.code x code maxLocals ret :: tables_1) room_1).applies x e0.platform about1 = true :=
  (Spec.applies_iff w_frames).mpr ⟨w_running, w_runnable, w_alone, w_named, w_hears, w_ripe, w_room, w_tables⟩
theorem atStart : AtStart classFile x code maxLocals ret World_1 tables_1 room_1 Calls_1 rest_1 Pre_1 launch0 p0 e0 about1 theMethod args0 below0 :=
  ⟨lists_1, trivial, launch0.admits_env _ _ _, launch0.least_env, fairChoices_fair.cas, fairChoices_fair.clock, w_frames, w_args, w_heap, w_applies, trivial, trivial, w_case⟩
end start1
theorem witness_1 : WitnessClaimed_1 := ⟨start1.p0, start1.e0, start1.about1, start1.theMethod, start1.args0, start1.below0, start1.atStart⟩
end Jvm.Pilot.@@N@@
