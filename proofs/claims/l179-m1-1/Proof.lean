import JvmDerived
import JvmDerived.Pilot.@@N@@Statement
import JvmDerived.Pilot.@@N@@Code
set_option linter.unusedVariables false
set_option linter.unusedSimpArgs false
namespace Jvm.RoadKit
open Sem ClassFile Op Lib Jvm.Stand Jvm.Free Jvm.LawKit
section New
variable {p : Program} {l : Launch} {e : Env} {R : Room} {s : State} {m : MethodId} {args : Array Value} {below : List Frame} {meth : Method} {c : Code} {T : State} {locs : List Loc} {cells slots : Nat}
theorem retI (X : Stand p l e R s m args below meth c T locs cells slots) (hx : p.tables.exec = Jvm.exec) {pc : Nat} {Ls : Array Slot} {z : Int32} {rest : List Value} (hret : meth.sig.returnType = some .int) (hd : decode c.code pc = .ok (.ireturn, 1)) {fs : List Frame}
    (hl : ∀ (f : JFrame) (acts : List Action), f.method = m → f.locked = none → f.entered = [] → (doReturn e (T.setTop f) acts (some (.int z))).1 = T.setFrames fs) : Steps p.tables e below (T.setTop (mkF m pc Ls (.int z :: rest))) (T.setFrames fs) := by
  have hm' : T.vm.method? m = some meth := X.method'
  have hn : narrow .int (.int z) = .int z := rfl
  show Steps p.tables e below (T.setTop { method := m, pc := pc, locals := Ls, stack := _ :: rest, locked := none }) _
  jvm_step X.here [X.here.top, hx, hd, hm', hret, hn]
  first | (intro acts; rw [hl _ acts rfl rfl rfl]) | rw [hl _ _ rfl rfl rfl]
  exact Steps.refl _
end New
end Jvm.RoadKit
namespace Jvm.Pilot.@@N@@
open Jvm Jvm.ClassFile Sem Op Lib Jvm.Free Jvm.Stand Jvm.LawKit Jvm.RoadKit Bundle Jvm.Pilot.@@N@@.Jvm.D
/-! the goals of a walk, and what closes them -/
def OEnd (p : Program) (e : Env) (below : List Frame) (s T : State) (g : JFrame) (Q : Option Value → Heap → List Loc → Prop) (kc ks : Nat) : Prop :=
  ∃ s₂ o, Steps p.tables e below (T.setTop g) s₂ ∧ s₂.status = .running ∧ Ended s₂ below o ∧ ∃ v L, o = .returned v ∧ Q v s₂.heap L ∧ FrameEnd s o s₂ L kc ks
def ORch (p : Program) (l : Launch) (e : Env) (R : Room) (s : State) (m : MethodId) (args : Array Value) (below : List Frame) (meth : Method) (c : Code) (n0 : Nat) (T : State) (g : JFrame) (h : Heap) (g' : JFrame) (cells slots : Nat) : Prop :=
  ∃ T' locs', Stand p l e R s m args below meth c T' locs' cells slots ∧ T'.heap = h ∧ Fr n0 locs' ∧ Goes p e below T g T' g'
def OArr (Z : State) (h : Heap) (a : Addr) (ty : FieldType) (n : Int32) (vs : List Value) (d : Value) : Prop := ∃ k, Arv Z h a k ty n vs d
def ORchH (p : Program) (l : Launch) (e : Env) (R : Room) (s : State) (m : MethodId) (args : Array Value) (below : List Frame) (meth : Method) (c : Code) (n0 : Nat) (T : State) (g : JFrame) (g' : JFrame) (cells slots : Nat) (P : Heap → Prop) : Prop :=
  ∃ T' h' locs', Stand p l e R s m args below meth c T' locs' cells slots ∧ T'.heap = h' ∧ Fr n0 locs' ∧ P h' ∧ Goes p e below T g T' g'
def ORchB (p : Program) (l : Launch) (e : Env) (R : Room) (s : State) (m : MethodId) (args : Array Value) (below : List Frame) (meth : Method) (c : Code) (n0 : Nat) (T : State) (g : JFrame) (g' : Addr → JFrame) (cells slots : Nat) (P : Heap → Addr → Prop) : Prop :=
  ∃ b T' h' locs', Stand p l e R s m args below meth c T' locs' cells slots ∧ T'.heap = h' ∧ Fr n0 locs' ∧ P h' b ∧ Goes p e below T g T' (g' b)
section Own
variable {p : Program} {l : Launch} {e : Env} {R : Room} {s : State} {m : MethodId} {args : Array Value} {below : List Frame} {meth : Method} {c : Code} {T T' : State} {locs : List Loc} {cells slots : Nat} {g g' g'' : JFrame} {Q : Option Value → Heap → List Loc → Prop} {kc ks : Nat}
theorem OEnd.go (k : Goes p e below T g T' g') (h : OEnd p e below s T' g' Q kc ks) : OEnd p e below s T g Q kc ks := by
  obtain ⟨s₂, o, h1, h2⟩ := h
  exact ⟨s₂, o, k _ h1, h2⟩
theorem ORch.go {n0 : Nat} {h : Heap} (k : Goes p e below T g T' g') (q : ORch p l e R s m args below meth c n0 T' g' h g'' cells slots) : ORch p l e R s m args below meth c n0 T g h g'' cells slots := by
  obtain ⟨T2, L2, h1, h2, h3, h4⟩ := q
  exact ⟨T2, L2, h1, h2, h3, fun t kt => k _ (h4 t kt)⟩
theorem ORchH.go {n0 : Nat} {P : Heap → Prop} (k : Goes p e below T g T' g') (q : ORchH p l e R s m args below meth c n0 T' g' g'' cells slots P) : ORchH p l e R s m args below meth c n0 T g g'' cells slots P := by
  obtain ⟨T2, h2, L2, h1, h2, h3, h4, h5⟩ := q
  exact ⟨T2, _, L2, h1, h2, h3, h4, fun t kt => k _ (h5 t kt)⟩
theorem ORchB.go {n0 : Nat} {P : Heap → Addr → Prop} {gb : Addr → JFrame} (k : Goes p e below T g T' g') (q : ORchB p l e R s m args below meth c n0 T' g' gb cells slots P) : ORchB p l e R s m args below meth c n0 T g gb cells slots P := by
  obtain ⟨b, T2, h2, L2, h1, h2, h3, h4, h5⟩ := q
  exact ⟨b, T2, _, L2, h1, h2, h3, h4, fun t kt => k _ (h5 t kt)⟩
theorem SGo.go {t : State} (k : Goes p e below T g T' g') (h : Steps p.tables e below (T'.setTop g') t) : Steps p.tables e below (T.setTop g) t := k _ h
theorem own_k {A : Type} {tb : Tables} {f : A → JFrame} {a b : A} {t : State} (q : a = b) (k : Steps tb e below (T.setTop (f a)) t) : Steps tb e below (T.setTop (f b)) t := q ▸ k
theorem own_symm {A : Type} {a b : A} (h : a = b) : b = a := h.symm
theorem own_via {A : Type} {a b c : A} (h : a = b) (k : a = c) : b = c := h.symm.trans k
theorem own_p {A : Type} {P : A → Prop} {a b : A} (q : a = b) (w : P a) : P b := q ▸ w
theorem own_at {h : Heap} {U : Heap} (q : U = h) {P : Heap → Prop} (w : P h) : P U := q ▸ w
theorem OArr.lt {Z : State} {h : Heap} {a : Addr} {ty : FieldType} {n : Int32} {vs : List Value} {d : Value} (F : OArr Z h a ty n vs d) : a < h.size := by obtain ⟨k, V⟩ := F; exact V.lt
theorem OArr.ext {Z : State} {h h' : Heap} {a : Addr} {ty : FieldType} {n : Int32} {vs : List Value} {d : Value} (F : OArr Z h a ty n vs d) (E : Ext h h') : OArr Z h' a ty n vs d := by obtain ⟨k, V⟩ := F; exact ⟨k, V.ext E⟩
theorem OArr.other {Z : State} {h h' : Heap} {a b : Addr} {ty : FieldType} {n : Int32} {vs : List Value} {d v : Value} {sl : Nat} (F : OArr Z h b ty n vs d) (W : Wr h h' a sl v) (q : b ≠ a) : OArr Z h' b ty n vs d := by obtain ⟨k, V⟩ := F; exact ⟨k, V.other W q⟩
theorem OArr.keep {Z : State} {h h' : Heap} {a : Addr} {ty : FieldType} {n : Int32} {vs : List Value} {d : Value} {ws : List Addr} (F : OArr Z h a ty n vs d) (K : Keep h h' ws) (q : a ∉ ws) : OArr Z h' a ty n vs d := by obtain ⟨k, V⟩ := F; exact ⟨k, V.keep K q⟩
theorem OEnd.int (X : Stand p l e R s m args below meth c T locs cells slots) (hx : p.tables.exec = Jvm.exec) {pc : Nat} {Ls : Array Slot} {z : Int32} {rest : List Value} (hret : meth.sig.returnType = some .int) (hlk : meth.locks = false) (hd : decode c.code pc = .ok (.ireturn, 1)) (hq : Q (some (.int z)) T.heap locs) (hc : cells ≤ kc) (hs : slots ≤ ks) :
    OEnd p e below s T (mkF m pc Ls (.int z :: rest)) Q kc ks := by
  obtain ⟨fs, hr, hrun, hended, hW, hsame⟩ := X.leave (v := some (.int z)) (fun h => by rw [hret] at h; cases h) hlk
  exact ⟨_, _, retI X hx hret hd hr, hrun, hended, _, _, rfl, hq, ⟨_, rfl⟩, hW, hsame.mono hc hs⟩
theorem OEnd.nar (X : Stand p l e R s m args below meth c T locs cells slots) (hx : p.tables.exec = Jvm.exec) {pc : Nat} {Ls : Array Slot} {z : Int32} {rest : List Value} {t : FieldType} (hret : meth.sig.returnType = some t) (ht : t = .boolean ∨ t = .byte ∨ t = .char ∨ t = .short) (hlk : meth.locks = false) (hd : decode c.code pc = .ok (.ireturn, 1)) (hq : Q (some (.int (nar t z))) T.heap locs) (hc : cells ≤ kc) (hs : slots ≤ ks) :
    OEnd p e below s T (mkF m pc Ls (.int z :: rest)) Q kc ks := by
  obtain ⟨fs, hr, hrun, hended, hW, hsame⟩ := X.leave (v := some (.int (RoadKit.nar t z))) (fun h => by rw [hret] at h; cases h) hlk
  exact ⟨_, _, retN X hx hret ht hd hr, hrun, hended, _, _, rfl, hq, ⟨_, rfl⟩, hW, hsame.mono hc hs⟩
theorem OEnd.long (X : Stand p l e R s m args below meth c T locs cells slots) (hx : p.tables.exec = Jvm.exec) {pc : Nat} {Ls : Array Slot} {z : Int64} (hret : meth.sig.returnType = some .long) (hlk : meth.locks = false) (hd : decode c.code pc = .ok (.lreturn, 1)) (hq : Q (some (.long z)) T.heap locs) (hc : cells ≤ kc) (hs : slots ≤ ks) :
    OEnd p e below s T (mkF m pc Ls [.long z]) Q kc ks := by
  obtain ⟨fs, hr, hrun, hended, hW, hsame⟩ := X.leave (v := some (.long z)) (fun h => by rw [hret] at h; cases h) hlk
  exact ⟨_, _, X.lreturnOut hx hret hd hr, hrun, hended, _, _, rfl, hq, ⟨_, rfl⟩, hW, hsame.mono hc hs⟩
theorem OEnd.void (X : Stand p l e R s m args below meth c T locs cells slots) (hx : p.tables.exec = Jvm.exec) {pc : Nat} {Ls : Array Slot} (hret : meth.sig.returnType = none) (hlk : meth.locks = false) (hd : decode c.code pc = .ok (.return_, 1)) (hq : Q none T.heap locs) (hc : cells ≤ kc) (hs : slots ≤ ks) :
    OEnd p e below s T (mkF m pc Ls []) Q kc ks := by
  obtain ⟨fs, hr, hrun, hended, hW, hsame⟩ := X.leave (v := none) (fun _ => rfl) hlk
  exact ⟨_, _, X.returnOut hx hret hd hr, hrun, hended, _, _, rfl, hq, ⟨_, rfl⟩, hW, hsame.mono hc hs⟩
theorem OEnd.ref (X : Stand p l e R s m args below meth c T locs cells slots) (hx : p.tables.exec = Jvm.exec) {pc : Nat} {Ls : Array Slot} {a : Addr} {t : FieldType} (hret : meth.sig.returnType = some t) (ht : t.isReference = true) (hlk : meth.locks = false) (hd : decode c.code pc = .ok (.areturn, 1)) (hq : Q (some (.ref a)) T.heap locs) (hc : cells ≤ kc) (hs : slots ≤ ks) :
    OEnd p e below s T (mkF m pc Ls [.ref a]) Q kc ks := by
  obtain ⟨fs, hr, hrun, hended, hW, hsame⟩ := X.leave (v := some (.ref a)) (fun h => by rw [hret] at h; cases h) hlk
  have hm' : T.vm.method? m = some meth := X.method'
  have st : Steps p.tables e below (T.setTop (mkF m pc Ls [.ref a])) (T.setFrames fs) := by
    show Steps p.tables e below (T.setTop { method := m, pc := pc, locals := Ls, stack := [_], locked := none }) _
    jvm_step X.here [X.here.top, hx, hd, hm', hret, ht, Value.isRef]
    first | (intro acts; rw [hr _ acts rfl rfl rfl]) | rw [hr _ _ rfl rfl rfl]
    exact Steps.refl _
  exact ⟨_, _, st, hrun, hended, _, _, rfl, hq, ⟨_, rfl⟩, hW, hsame.mono hc hs⟩
end Own
theorem d3_0 : decode method_2_code 0 = .ok (.iload_n 0, 1) := by decide +kernel
theorem d3_1 : decode method_2_code 1 = .ok (.iload_n 1, 1) := by decide +kernel
theorem d3_2 : decode method_2_code 2 = .ok (.if_icmp .ge 5, 3) := by decide +kernel
theorem d3_5 : decode method_2_code 5 = .ok (.iconst (-1), 1) := by decide +kernel
theorem d3_6 : decode method_2_code 6 = .ok (.ireturn, 1) := by decide +kernel
theorem d3_7 : decode method_2_code 7 = .ok (.iload_n 0, 1) := by decide +kernel
theorem d3_8 : decode method_2_code 8 = .ok (.iload_n 1, 1) := by decide +kernel
theorem d3_9 : decode method_2_code 9 = .ok (.if_icmp .le 5, 3) := by decide +kernel
theorem d3_12 : decode method_2_code 12 = .ok (.iconst 1, 1) := by decide +kernel
theorem d3_13 : decode method_2_code 13 = .ok (.ireturn, 1) := by decide +kernel
theorem d3_14 : decode method_2_code 14 = .ok (.iconst 0, 1) := by decide +kernel
theorem d3_15 : decode method_2_code 15 = .ok (.ireturn, 1) := by decide +kernel
def f3 (p0 : Int32) (p1 : Int32) : Int32 := (if p0 < p1 then (-1 : Int32) else (if p1 < p0 then (1 : Int32) else (0 : Int32)))
theorem pn_com_example_assentor_assentor_check_OdometerBeforePinLaw : plainName "com/example/assentor/assentor/check/OdometerBeforePinLaw" = true := by first | (simp [plainName, overriddenIn]; done) | decide +kernel
theorem ef_3 (m : MethodId) (x0 : Int32) (x1 : Int32) : entryFrame m #[(.int x0), (.int x1)] 2 = mkF m 0 #[.val (.int x0), .val (.int x1)] [] := by first | (simp [entryFrame, mkF, argsToLocals, Value.category]; done) | rfl
def Q3 (Z : State) (p0 : Int32) (p1 : Int32) (h0 : Heap) (n0 : Nat) (v : Option Value) (h : Heap) (L : List Loc) : Prop := v = some (.int (f3 p0 p1)) ∧ Fr n0 L ∧ h = h0
set_option maxRecDepth 65536 in
set_option maxHeartbeats 40000000 in
theorem rm3 (l : Launch) (Z : State) (aZ : Array Value) (hw : ∀ d ∈ tables_1, d.before aZ Z = true) (ws : List Jvm.Cond) (p0 : Int32) (p1 : Int32) (h0 : Heap) (n0 : Nat) (Z0 : n0 ≤ h0.size) :
    MetFree l (⟨"com/example/assentor/assentor/check/OdometerBeforePinLaw", "sign", "(II)I"⟩ : MethodName) (head1 (Jvm.Cond.code (⟨"com/example/assentor/assentor/check/OdometerBeforePinLaw", "sign", "(II)I"⟩ : MethodName) method_2_code 2 (some .int) :: ws) ({ frames := 0, cells := 0, slots := 0, locals := 0 } : Room)) (fun a U => a = #[(.int p0), (.int p1)] ∧ Z.Warmed39 U.vm ∧ U.heap = h0) (fun _ _ _ _ _ => True) (fun _ U o U' => ∃ v L, o = .returned v ∧ Q3 Z p0 p1 h0 n0 v U'.heap L ∧ FrameEnd U o U' L ({ frames := 0, cells := 0, slots := 0, locals := 0 } : Room).cells ({ frames := 0, cells := 0, slots := 0, locals := 0 } : Room).slots) := by
  refine MetFree.of_bodySF (plainFor_of_name pn_com_example_assentor_assentor_check_OdometerBeforePinLaw) hisR ?_
  intro p e s m args below meth c s₁ Bd hml0 hP hK
  obtain ⟨rfl, hZ, hh⟩ := hP
  have hx := Bd.exec
  have hby := Bd.bytes
  have hlk : meth.locks = false := BodyLoose.notSynchronized Bd
  have hml : c.maxLocals = 2 := hml0
  have hown : s.vm.findClass "com/example/assentor/assentor/check/OdometerBeforePinLaw" = some m.cls := findClass_of_methodNamed Bd.named
  have hnm := (name_of_methodNamed Bd.named Bd.method).1
  have X0 : Stand p l e ({ frames := 0, cells := 0, slots := 0, locals := 0 } : Room) s m #[(.int p0), (.int p1)] below meth c s₁ [] 0 0 := Stand.of_body Bd
  have e0 : s₁.heap = h0 := by rw [← hh, Bd.state]; rfl
  have N0 := Fr.nil n0
  show OEnd p e below s s₁ (entryFrame m #[(.int p0), (.int p1)] 2) (Q3 Z p0 p1 h0 n0) ({ frames := 0, cells := 0, slots := 0, locals := 0 } : Room).cells ({ frames := 0, cells := 0, slots := 0, locals := 0 } : Room).slots
  refine OEnd.go (g' := (mkF m 0 #[.val (.int p0), .val (.int p1)] [])) (fun _ k => castTop (ef_3 m p0 p1) k) ?_
  refine OEnd.go (T' := s₁) (g' := (mkF m 2 #[.val (.int p0), .val (.int p1)] [(.int p1), (.int p0)])) (fun t k => ?_) ?_
  · show Steps p.tables e below (s₁.setTop (mkF m 0 #[.val (.int p0), .val (.int p1)] [])) t
    refine XS.iloadN X0.here hx rfl (hb hby d3_0) rfl ?_
    show Steps p.tables e below (s₁.setTop (mkF m 1 #[.val (.int p0), .val (.int p1)] [(.int p0)])) t
    refine XS.iloadN X0.here hx rfl (hb hby d3_1) rfl ?_
    show Steps p.tables e below (s₁.setTop (mkF m 2 #[.val (.int p0), .val (.int p1)] [(.int p1), (.int p0)])) t
    exact k
  by_cases hc1 : p0 < p1
  · skip
    refine OEnd.go (T' := s₁) (g' := (mkF m 5 #[.val (.int p0), .val (.int p1)] [])) (fun t k => ?_) ?_
    · show Steps p.tables e below (s₁.setTop (mkF m 2 #[.val (.int p0), .val (.int p1)] [(.int p1), (.int p0)])) t
      refine XS.icmpNo X0.here hx rfl (hb hby d3_2) rfl (tlt (hc1)).2.1 ?_
      show Steps p.tables e below (s₁.setTop (mkF m 5 #[.val (.int p0), .val (.int p1)] [])) t
      exact k
    refine OEnd.go (T' := s₁) (g' := (mkF m 6 #[.val (.int p0), .val (.int p1)] [(.int (-1 : Int32))])) (fun t k => ?_) ?_
    · show Steps p.tables e below (s₁.setTop (mkF m 5 #[.val (.int p0), .val (.int p1)] [])) t
      refine XS.iconst X0.here hx rfl (hb hby d3_5) ?_
      show Steps p.tables e below (s₁.setTop (mkF m 6 #[.val (.int p0), .val (.int p1)] [(.int (-1 : Int32))])) t
      exact k
    exact OEnd.int X0 hx Bd.returns hlk (hb hby d3_6) ⟨(congrArg (fun z => some (Value.int z)) (own_symm (if_pos hc1))), N0, e0⟩ (by decide) (by decide)
  · skip
    refine OEnd.go (T' := s₁) (g' := (mkF m 7 #[.val (.int p0), .val (.int p1)] [])) (fun t k => ?_) ?_
    · show Steps p.tables e below (s₁.setTop (mkF m 2 #[.val (.int p0), .val (.int p1)] [(.int p1), (.int p0)])) t
      refine XS.icmpYes X0.here hx rfl (pc0 := 2) (pc' := 7) rfl (hb hby d3_2) rfl (flt (hc1)).2.1 (by decide) (by decide) ?_
      show Steps p.tables e below (s₁.setTop (mkF m 7 #[.val (.int p0), .val (.int p1)] [])) t
      exact k
    refine OEnd.go (T' := s₁) (g' := (mkF m 9 #[.val (.int p0), .val (.int p1)] [(.int p1), (.int p0)])) (fun t k => ?_) ?_
    · show Steps p.tables e below (s₁.setTop (mkF m 7 #[.val (.int p0), .val (.int p1)] [])) t
      refine XS.iloadN X0.here hx rfl (hb hby d3_7) rfl ?_
      show Steps p.tables e below (s₁.setTop (mkF m 8 #[.val (.int p0), .val (.int p1)] [(.int p0)])) t
      refine XS.iloadN X0.here hx rfl (hb hby d3_8) rfl ?_
      show Steps p.tables e below (s₁.setTop (mkF m 9 #[.val (.int p0), .val (.int p1)] [(.int p1), (.int p0)])) t
      exact k
    by_cases hc2 : p1 < p0
    · skip
      refine OEnd.go (T' := s₁) (g' := (mkF m 12 #[.val (.int p0), .val (.int p1)] [])) (fun t k => ?_) ?_
      · show Steps p.tables e below (s₁.setTop (mkF m 9 #[.val (.int p0), .val (.int p1)] [(.int p1), (.int p0)])) t
        refine XS.icmpNo X0.here hx rfl (hb hby d3_9) rfl (tlt (hc2)).2.2.2 ?_
        show Steps p.tables e below (s₁.setTop (mkF m 12 #[.val (.int p0), .val (.int p1)] [])) t
        exact k
      refine OEnd.go (T' := s₁) (g' := (mkF m 13 #[.val (.int p0), .val (.int p1)] [(.int (1 : Int32))])) (fun t k => ?_) ?_
      · show Steps p.tables e below (s₁.setTop (mkF m 12 #[.val (.int p0), .val (.int p1)] [])) t
        refine XS.iconst X0.here hx rfl (hb hby d3_12) ?_
        show Steps p.tables e below (s₁.setTop (mkF m 13 #[.val (.int p0), .val (.int p1)] [(.int (1 : Int32))])) t
        exact k
      exact OEnd.int X0 hx Bd.returns hlk (hb hby d3_13) ⟨(congrArg (fun z => some (Value.int z)) (own_symm ((if_neg hc1).trans (if_pos hc2)))), N0, e0⟩ (by decide) (by decide)
    · skip
      refine OEnd.go (T' := s₁) (g' := (mkF m 14 #[.val (.int p0), .val (.int p1)] [])) (fun t k => ?_) ?_
      · show Steps p.tables e below (s₁.setTop (mkF m 9 #[.val (.int p0), .val (.int p1)] [(.int p1), (.int p0)])) t
        refine XS.icmpYes X0.here hx rfl (pc0 := 9) (pc' := 14) rfl (hb hby d3_9) rfl (flt (hc2)).2.2.2 (by decide) (by decide) ?_
        show Steps p.tables e below (s₁.setTop (mkF m 14 #[.val (.int p0), .val (.int p1)] [])) t
        exact k
      refine OEnd.go (T' := s₁) (g' := (mkF m 15 #[.val (.int p0), .val (.int p1)] [(.int (0 : Int32))])) (fun t k => ?_) ?_
      · show Steps p.tables e below (s₁.setTop (mkF m 14 #[.val (.int p0), .val (.int p1)] [])) t
        refine XS.iconst X0.here hx rfl (hb hby d3_14) ?_
        show Steps p.tables e below (s₁.setTop (mkF m 15 #[.val (.int p0), .val (.int p1)] [(.int (0 : Int32))])) t
        exact k
      exact OEnd.int X0 hx Bd.returns hlk (hb hby d3_15) ⟨(congrArg (fun z => some (Value.int z)) (own_symm ((if_neg hc1).trans (if_neg hc2)))), N0, e0⟩ (by decide) (by decide)
theorem d1_0 : decode method_3_code 0 = .ok (.iload_n 0, 1) := by decide +kernel
theorem d1_1 : decode method_3_code 1 = .ok (.newarray .int, 2) := by decide +kernel
theorem d1_3 : decode method_3_code 3 = .ok (.astore 4, 2) := by decide +kernel
theorem d1_5 : decode method_3_code 5 = .ok (.iload_n 0, 1) := by decide +kernel
theorem d1_6 : decode method_3_code 6 = .ok (.ifCond .le 8, 3) := by decide +kernel
theorem d1_14 : decode method_3_code 14 = .ok (.iload_n 0, 1) := by decide +kernel
theorem d1_15 : decode method_3_code 15 = .ok (.iconst 1, 1) := by decide +kernel
theorem d1_16 : decode method_3_code 16 = .ok (.if_icmp .le 8, 3) := by decide +kernel
theorem d1_24 : decode method_3_code 24 = .ok (.iload_n 0, 1) := by decide +kernel
theorem d1_25 : decode method_3_code 25 = .ok (.iconst 2, 1) := by decide +kernel
theorem d1_26 : decode method_3_code 26 = .ok (.if_icmp .le 8, 3) := by decide +kernel
theorem d1_34 : decode method_3_code 34 = .ok (.aload 4, 2) := by decide +kernel
theorem d1_36 : decode method_3_code 36 = .ok (.areturn, 1) := by decide +kernel
theorem ef_1_0 (m : MethodId) (x1 : Int32) (x2 : Int32) (x3 : Int32) : entryFrame m #[(.int (0 : Int32)), (.int x1), (.int x2), (.int x3)] 5 = mkF m 0 #[.val (.int (0 : Int32)), .val (.int x1), .val (.int x2), .val (.int x3), .unset] [] := by first | (simp [entryFrame, mkF, argsToLocals, Value.category]; done) | rfl
def Q1_0 (Z : State) (p1 : Int32) (p2 : Int32) (p3 : Int32) (h0 : Heap) (n0 : Nat) (v : Option Value) (h : Heap) (L : List Loc) : Prop := ∃ r : Addr, v = some (.ref r) ∧ n0 ≤ r ∧ h0.size ≤ r ∧ Fr n0 L ∧ Keep h0 h [] ∧ OArr Z h r .int (0 : Int32) [] (.int (0 : Int32))
set_option maxRecDepth 65536 in
set_option maxHeartbeats 40000000 in
theorem rm1_0 (l : Launch) (Z : State) (aZ : Array Value) (hw : ∀ d ∈ tables_1, d.before aZ Z = true) (ws : List Jvm.Cond) (p1 : Int32) (p2 : Int32) (p3 : Int32) (h0 : Heap) (n0 : Nat) (Z0 : n0 ≤ h0.size) :
    MetFree l (⟨"com/example/assentor/assentor/check/OdometerBeforePinLaw", "mk", "(IIII)[I"⟩ : MethodName) (head1 (Jvm.Cond.code (⟨"com/example/assentor/assentor/check/OdometerBeforePinLaw", "mk", "(IIII)[I"⟩ : MethodName) method_3_code 5 (some (.array .int)) :: ws) ({ frames := 0, cells := 1, slots := 0, locals := 0 } : Room)) (fun a U => a = #[(.int (0 : Int32)), (.int p1), (.int p2), (.int p3)] ∧ Z.Warmed39 U.vm ∧ U.heap = h0) (fun _ _ _ _ _ => True) (fun _ U o U' => ∃ v L, o = .returned v ∧ Q1_0 Z p1 p2 p3 h0 n0 v U'.heap L ∧ FrameEnd U o U' L ({ frames := 0, cells := 1, slots := 0, locals := 0 } : Room).cells ({ frames := 0, cells := 1, slots := 0, locals := 0 } : Room).slots) := by
  refine MetFree.of_bodySF (plainFor_of_name pn_com_example_assentor_assentor_check_OdometerBeforePinLaw) hisR ?_
  intro p e s m args below meth c s₁ Bd hml0 hP hK
  obtain ⟨rfl, hZ, hh⟩ := hP
  have hx := Bd.exec
  have hby := Bd.bytes
  have hlk : meth.locks = false := BodyLoose.notSynchronized Bd
  have hml : c.maxLocals = 5 := hml0
  have hown : s.vm.findClass "com/example/assentor/assentor/check/OdometerBeforePinLaw" = some m.cls := findClass_of_methodNamed Bd.named
  have hnm := (name_of_methodNamed Bd.named Bd.method).1
  have X0 : Stand p l e ({ frames := 0, cells := 1, slots := 0, locals := 0 } : Room) s m #[(.int (0 : Int32)), (.int p1), (.int p2), (.int p3)] below meth c s₁ [] 0 0 := Stand.of_body Bd
  have e0 : s₁.heap = h0 := by rw [← hh, Bd.state]; rfl
  have N0 := Fr.nil n0
  have K0 : Keep h0 h0 [] := Keep.refl _ _
  show OEnd p e below s s₁ (entryFrame m #[(.int (0 : Int32)), (.int p1), (.int p2), (.int p3)] 5) (Q1_0 Z p1 p2 p3 h0 n0) ({ frames := 0, cells := 1, slots := 0, locals := 0 } : Room).cells ({ frames := 0, cells := 1, slots := 0, locals := 0 } : Room).slots
  refine OEnd.go (g' := (mkF m 0 #[.val (.int (0 : Int32)), .val (.int p1), .val (.int p2), .val (.int p3), .unset] [])) (fun _ k => castTop (ef_1_0 m p1 p2 p3) k) ?_
  refine OEnd.go (T' := s₁) (g' := (mkF m 1 #[.val (.int (0 : Int32)), .val (.int p1), .val (.int p2), .val (.int p3), .unset] [(.int (0 : Int32))])) (fun t k => ?_) ?_
  · show Steps p.tables e below (s₁.setTop (mkF m 0 #[.val (.int (0 : Int32)), .val (.int p1), .val (.int p2), .val (.int p3), .unset] [])) t
    refine XS.iloadN X0.here hx rfl (hb hby d1_0) rfl ?_
    show Steps p.tables e below (s₁.setTop (mkF m 1 #[.val (.int (0 : Int32)), .val (.int p1), .val (.int p2), .val (.int p3), .unset] [(.int (0 : Int32))])) t
    exact k
  obtain ⟨T1, h1, k1, X1, e1, E1, A1, st1⟩ := newP X0 hx hZ (hw _ (List.mem_of_getElem? (i := 4) rfl)) e0 (g := (mkF m 1 #[.val (.int (0 : Int32)), .val (.int p1), .val (.int p2), .val (.int p3), .unset] [(.int (0 : Int32))])) rfl (hb hby d1_1) rfl (by decide) (cap := 0) (by decide) (by decide) (by decide) (by decide)
  obtain ⟨b1_1, g1⟩ : ∃ z, z = h0.size := ⟨_, rfl⟩
  rw [← g1] at A1 st1
  have gle_b1_1 : n0 ≤ b1_1 := Nat.le_trans Z0 (Nat.le_of_eq g1.symm)
  have sz_b1_1 : h0.size ≤ b1_1 := Nat.le_trans K0.1 (Nat.le_of_eq g1.symm)
  have Z1 : n0 ≤ h1.size := Nat.le_trans Z0 E1.1
  have K1 : Keep h0 h1 [] := K0.ext E1
  have V1 : OArr Z h1 b1_1 .int (0 : Int32) [] (.int (0 : Int32)) := ⟨_, Arv.new A1 (by decide)⟩
  refine OEnd.go (g' := (mkF m 3 #[.val (.int (0 : Int32)), .val (.int p1), .val (.int p2), .val (.int p3), .unset] [(.ref b1_1)])) st1 ?_
  refine OEnd.go (T' := T1) (g' := (mkF m 36 #[.val (.int (0 : Int32)), .val (.int p1), .val (.int p2), .val (.int p3), .val (.ref b1_1)] [(.ref b1_1)])) (fun t k => ?_) ?_
  · show Steps p.tables e below (T1.setTop (mkF m 3 #[.val (.int (0 : Int32)), .val (.int p1), .val (.int p2), .val (.int p3), .unset] [(.ref b1_1)])) t
    refine XS.astore X1.here hx rfl (hb hby d1_3) rfl rfl (l' := #[.val (.int (0 : Int32)), .val (.int p1), .val (.int p2), .val (.int p3), .val (.ref b1_1)]) rfl ?_
    show Steps p.tables e below (T1.setTop (mkF m 5 #[.val (.int (0 : Int32)), .val (.int p1), .val (.int p2), .val (.int p3), .val (.ref b1_1)] [])) t
    refine XS.iloadN X1.here hx rfl (hb hby d1_5) rfl ?_
    show Steps p.tables e below (T1.setTop (mkF m 6 #[.val (.int (0 : Int32)), .val (.int p1), .val (.int p2), .val (.int p3), .val (.ref b1_1)] [(.int (0 : Int32))])) t
    refine XS.ifYes X1.here hx rfl (pc0 := 6) (pc' := 14) rfl (hb hby d1_6) rfl ((if0 _ _).trans (flt ((by decide))).2.2.2) (by decide) (by decide) ?_
    show Steps p.tables e below (T1.setTop (mkF m 14 #[.val (.int (0 : Int32)), .val (.int p1), .val (.int p2), .val (.int p3), .val (.ref b1_1)] [])) t
    refine XS.iloadN X1.here hx rfl (hb hby d1_14) rfl ?_
    show Steps p.tables e below (T1.setTop (mkF m 15 #[.val (.int (0 : Int32)), .val (.int p1), .val (.int p2), .val (.int p3), .val (.ref b1_1)] [(.int (0 : Int32))])) t
    refine XS.iconst X1.here hx rfl (hb hby d1_15) ?_
    show Steps p.tables e below (T1.setTop (mkF m 16 #[.val (.int (0 : Int32)), .val (.int p1), .val (.int p2), .val (.int p3), .val (.ref b1_1)] [(.int (1 : Int32)), (.int (0 : Int32))])) t
    refine XS.icmpYes X1.here hx rfl (pc0 := 16) (pc' := 24) rfl (hb hby d1_16) rfl (flt ((by decide))).2.2.2 (by decide) (by decide) ?_
    show Steps p.tables e below (T1.setTop (mkF m 24 #[.val (.int (0 : Int32)), .val (.int p1), .val (.int p2), .val (.int p3), .val (.ref b1_1)] [])) t
    refine XS.iloadN X1.here hx rfl (hb hby d1_24) rfl ?_
    show Steps p.tables e below (T1.setTop (mkF m 25 #[.val (.int (0 : Int32)), .val (.int p1), .val (.int p2), .val (.int p3), .val (.ref b1_1)] [(.int (0 : Int32))])) t
    refine XS.iconst X1.here hx rfl (hb hby d1_25) ?_
    show Steps p.tables e below (T1.setTop (mkF m 26 #[.val (.int (0 : Int32)), .val (.int p1), .val (.int p2), .val (.int p3), .val (.ref b1_1)] [(.int (2 : Int32)), (.int (0 : Int32))])) t
    refine XS.icmpYes X1.here hx rfl (pc0 := 26) (pc' := 34) rfl (hb hby d1_26) rfl (flt ((by decide))).2.2.2 (by decide) (by decide) ?_
    show Steps p.tables e below (T1.setTop (mkF m 34 #[.val (.int (0 : Int32)), .val (.int p1), .val (.int p2), .val (.int p3), .val (.ref b1_1)] [])) t
    refine XS.aload X1.here hx rfl (hb hby d1_34) rfl rfl ?_
    show Steps p.tables e below (T1.setTop (mkF m 36 #[.val (.int (0 : Int32)), .val (.int p1), .val (.int p2), .val (.int p3), .val (.ref b1_1)] [(.ref b1_1)])) t
    exact k
  exact OEnd.ref X1 hx Bd.returns rfl hlk (hb hby d1_36) ⟨b1_1, rfl, gle_b1_1, sz_b1_1, N0, (own_at e1 (P := fun h => Keep h0 h []) K1), (own_at e1 (P := fun h => OArr Z h b1_1 .int (0 : Int32) [] (.int (0 : Int32))) V1)⟩ (by decide) (by decide)
theorem d1_9 : decode method_3_code 9 = .ok (.aload 4, 2) := by decide +kernel
theorem d1_11 : decode method_3_code 11 = .ok (.iconst 0, 1) := by decide +kernel
theorem d1_12 : decode method_3_code 12 = .ok (.iload_n 1, 1) := by decide +kernel
theorem d1_13 : decode method_3_code 13 = .ok (.iastore, 1) := by decide +kernel
theorem ef_1_1 (m : MethodId) (x1 : Int32) (x2 : Int32) (x3 : Int32) : entryFrame m #[(.int (1 : Int32)), (.int x1), (.int x2), (.int x3)] 5 = mkF m 0 #[.val (.int (1 : Int32)), .val (.int x1), .val (.int x2), .val (.int x3), .unset] [] := by first | (simp [entryFrame, mkF, argsToLocals, Value.category]; done) | rfl
def Q1_1 (Z : State) (p1 : Int32) (p2 : Int32) (p3 : Int32) (h0 : Heap) (n0 : Nat) (v : Option Value) (h : Heap) (L : List Loc) : Prop := ∃ r : Addr, v = some (.ref r) ∧ n0 ≤ r ∧ h0.size ≤ r ∧ Fr n0 L ∧ Keep h0 h [] ∧ OArr Z h r .int (1 : Int32) [(.int p1)] (.int (0 : Int32))
set_option maxRecDepth 65536 in
set_option maxHeartbeats 40000000 in
theorem rm1_1 (l : Launch) (Z : State) (aZ : Array Value) (hw : ∀ d ∈ tables_1, d.before aZ Z = true) (ws : List Jvm.Cond) (p1 : Int32) (p2 : Int32) (p3 : Int32) (h0 : Heap) (n0 : Nat) (Z0 : n0 ≤ h0.size) :
    MetFree l (⟨"com/example/assentor/assentor/check/OdometerBeforePinLaw", "mk", "(IIII)[I"⟩ : MethodName) (head1 (Jvm.Cond.code (⟨"com/example/assentor/assentor/check/OdometerBeforePinLaw", "mk", "(IIII)[I"⟩ : MethodName) method_3_code 5 (some (.array .int)) :: ws) ({ frames := 0, cells := 1, slots := 1, locals := 0 } : Room)) (fun a U => a = #[(.int (1 : Int32)), (.int p1), (.int p2), (.int p3)] ∧ Z.Warmed39 U.vm ∧ U.heap = h0) (fun _ _ _ _ _ => True) (fun _ U o U' => ∃ v L, o = .returned v ∧ Q1_1 Z p1 p2 p3 h0 n0 v U'.heap L ∧ FrameEnd U o U' L ({ frames := 0, cells := 1, slots := 1, locals := 0 } : Room).cells ({ frames := 0, cells := 1, slots := 1, locals := 0 } : Room).slots) := by
  refine MetFree.of_bodySF (plainFor_of_name pn_com_example_assentor_assentor_check_OdometerBeforePinLaw) hisR ?_
  intro p e s m args below meth c s₁ Bd hml0 hP hK
  obtain ⟨rfl, hZ, hh⟩ := hP
  have hx := Bd.exec
  have hby := Bd.bytes
  have hlk : meth.locks = false := BodyLoose.notSynchronized Bd
  have hml : c.maxLocals = 5 := hml0
  have hown : s.vm.findClass "com/example/assentor/assentor/check/OdometerBeforePinLaw" = some m.cls := findClass_of_methodNamed Bd.named
  have hnm := (name_of_methodNamed Bd.named Bd.method).1
  have X0 : Stand p l e ({ frames := 0, cells := 1, slots := 1, locals := 0 } : Room) s m #[(.int (1 : Int32)), (.int p1), (.int p2), (.int p3)] below meth c s₁ [] 0 0 := Stand.of_body Bd
  have e0 : s₁.heap = h0 := by rw [← hh, Bd.state]; rfl
  have N0 := Fr.nil n0
  have K0 : Keep h0 h0 [] := Keep.refl _ _
  show OEnd p e below s s₁ (entryFrame m #[(.int (1 : Int32)), (.int p1), (.int p2), (.int p3)] 5) (Q1_1 Z p1 p2 p3 h0 n0) ({ frames := 0, cells := 1, slots := 1, locals := 0 } : Room).cells ({ frames := 0, cells := 1, slots := 1, locals := 0 } : Room).slots
  refine OEnd.go (g' := (mkF m 0 #[.val (.int (1 : Int32)), .val (.int p1), .val (.int p2), .val (.int p3), .unset] [])) (fun _ k => castTop (ef_1_1 m p1 p2 p3) k) ?_
  refine OEnd.go (T' := s₁) (g' := (mkF m 1 #[.val (.int (1 : Int32)), .val (.int p1), .val (.int p2), .val (.int p3), .unset] [(.int (1 : Int32))])) (fun t k => ?_) ?_
  · show Steps p.tables e below (s₁.setTop (mkF m 0 #[.val (.int (1 : Int32)), .val (.int p1), .val (.int p2), .val (.int p3), .unset] [])) t
    refine XS.iloadN X0.here hx rfl (hb hby d1_0) rfl ?_
    show Steps p.tables e below (s₁.setTop (mkF m 1 #[.val (.int (1 : Int32)), .val (.int p1), .val (.int p2), .val (.int p3), .unset] [(.int (1 : Int32))])) t
    exact k
  obtain ⟨T1, h1, k1, X1, e1, E1, A1, st1⟩ := newP X0 hx hZ (hw _ (List.mem_of_getElem? (i := 4) rfl)) e0 (g := (mkF m 1 #[.val (.int (1 : Int32)), .val (.int p1), .val (.int p2), .val (.int p3), .unset] [(.int (1 : Int32))])) rfl (hb hby d1_1) rfl (by decide) (cap := 1) (by decide) (by decide) (by decide) (by decide)
  obtain ⟨b1_1, g1⟩ : ∃ z, z = h0.size := ⟨_, rfl⟩
  rw [← g1] at A1 st1
  have gle_b1_1 : n0 ≤ b1_1 := Nat.le_trans Z0 (Nat.le_of_eq g1.symm)
  have sz_b1_1 : h0.size ≤ b1_1 := Nat.le_trans K0.1 (Nat.le_of_eq g1.symm)
  have Z1 : n0 ≤ h1.size := Nat.le_trans Z0 E1.1
  have K1 : Keep h0 h1 [] := K0.ext E1
  have V1 : OArr Z h1 b1_1 .int (1 : Int32) [(.int (0 : Int32))] (.int (0 : Int32)) := ⟨_, (Arv.new A1 (by decide)).pad (pad_rep [] (.int (0 : Int32)) 1)⟩
  refine OEnd.go (g' := (mkF m 3 #[.val (.int (1 : Int32)), .val (.int p1), .val (.int p2), .val (.int p3), .unset] [(.ref b1_1)])) st1 ?_
  refine OEnd.go (T' := T1) (g' := (mkF m 13 #[.val (.int (1 : Int32)), .val (.int p1), .val (.int p2), .val (.int p3), .val (.ref b1_1)] [(.int p1), (.int (0 : Int32)), (.ref b1_1)])) (fun t k => ?_) ?_
  · show Steps p.tables e below (T1.setTop (mkF m 3 #[.val (.int (1 : Int32)), .val (.int p1), .val (.int p2), .val (.int p3), .unset] [(.ref b1_1)])) t
    refine XS.astore X1.here hx rfl (hb hby d1_3) rfl rfl (l' := #[.val (.int (1 : Int32)), .val (.int p1), .val (.int p2), .val (.int p3), .val (.ref b1_1)]) rfl ?_
    show Steps p.tables e below (T1.setTop (mkF m 5 #[.val (.int (1 : Int32)), .val (.int p1), .val (.int p2), .val (.int p3), .val (.ref b1_1)] [])) t
    refine XS.iloadN X1.here hx rfl (hb hby d1_5) rfl ?_
    show Steps p.tables e below (T1.setTop (mkF m 6 #[.val (.int (1 : Int32)), .val (.int p1), .val (.int p2), .val (.int p3), .val (.ref b1_1)] [(.int (1 : Int32))])) t
    refine XS.ifNo X1.here hx rfl (hb hby d1_6) rfl ((if0 _ _).trans (tlt ((by decide))).2.2.2) ?_
    show Steps p.tables e below (T1.setTop (mkF m 9 #[.val (.int (1 : Int32)), .val (.int p1), .val (.int p2), .val (.int p3), .val (.ref b1_1)] [])) t
    refine XS.aload X1.here hx rfl (hb hby d1_9) rfl rfl ?_
    show Steps p.tables e below (T1.setTop (mkF m 11 #[.val (.int (1 : Int32)), .val (.int p1), .val (.int p2), .val (.int p3), .val (.ref b1_1)] [(.ref b1_1)])) t
    refine XS.iconst X1.here hx rfl (hb hby d1_11) ?_
    show Steps p.tables e below (T1.setTop (mkF m 12 #[.val (.int (1 : Int32)), .val (.int p1), .val (.int p2), .val (.int p3), .val (.ref b1_1)] [(.int (0 : Int32)), (.ref b1_1)])) t
    refine XS.iloadN X1.here hx rfl (hb hby d1_12) rfl ?_
    show Steps p.tables e below (T1.setTop (mkF m 13 #[.val (.int (1 : Int32)), .val (.int p1), .val (.int p2), .val (.int p3), .val (.ref b1_1)] [(.int p1), (.int (0 : Int32)), (.ref b1_1)])) t
    exact k
  obtain ⟨kc2, cl2, Ar2, q2, S2, M2, H2, G2⟩ := id V1
  have hin2 : ¬ ((0 : Int32) < 0 ∨ cl2.slots.size ≤ ((0 : Int32)).toNatClampNeg) := inb_of S2 ⟨by decide, by decide⟩
  obtain ⟨T2, h2, X2, e2, W2, st2⟩ := stI X1 hx hZ e1 Ar2 (j := (0 : Int32)) hin2 (g := (mkF m 13 #[.val (.int (1 : Int32)), .val (.int p1), .val (.int p2), .val (.int p3), .val (.ref b1_1)] [(.int p1), (.int (0 : Int32)), (.ref b1_1)])) rfl rfl (hb hby d1_13)
  have N2 := Fr.snoc X2 N0 gle_b1_1
  have Z2 : n0 ≤ h2.size := Nat.le_trans Z1 (Keep.of_wr W2).1
  have K2 : Keep h0 h2 [] := K1.wr W2 (Or.inr sz_b1_1)
  have V2 : OArr Z h2 b1_1 .int (1 : Int32) [(.int p1)] (.int (0 : Int32)) := ⟨_, Arv.set Ar2 q2 S2 M2 H2 G2 rfl W2 0 rfl (Nat.le_of_ble_eq_true rfl)⟩
  refine OEnd.go (g' := (mkF m 14 #[.val (.int (1 : Int32)), .val (.int p1), .val (.int p2), .val (.int p3), .val (.ref b1_1)] [])) st2 ?_
  refine OEnd.go (T' := T2) (g' := (mkF m 36 #[.val (.int (1 : Int32)), .val (.int p1), .val (.int p2), .val (.int p3), .val (.ref b1_1)] [(.ref b1_1)])) (fun t k => ?_) ?_
  · show Steps p.tables e below (T2.setTop (mkF m 14 #[.val (.int (1 : Int32)), .val (.int p1), .val (.int p2), .val (.int p3), .val (.ref b1_1)] [])) t
    refine XS.iloadN X2.here hx rfl (hb hby d1_14) rfl ?_
    show Steps p.tables e below (T2.setTop (mkF m 15 #[.val (.int (1 : Int32)), .val (.int p1), .val (.int p2), .val (.int p3), .val (.ref b1_1)] [(.int (1 : Int32))])) t
    refine XS.iconst X2.here hx rfl (hb hby d1_15) ?_
    show Steps p.tables e below (T2.setTop (mkF m 16 #[.val (.int (1 : Int32)), .val (.int p1), .val (.int p2), .val (.int p3), .val (.ref b1_1)] [(.int (1 : Int32)), (.int (1 : Int32))])) t
    refine XS.icmpYes X2.here hx rfl (pc0 := 16) (pc' := 24) rfl (hb hby d1_16) rfl (flt ((by decide))).2.2.2 (by decide) (by decide) ?_
    show Steps p.tables e below (T2.setTop (mkF m 24 #[.val (.int (1 : Int32)), .val (.int p1), .val (.int p2), .val (.int p3), .val (.ref b1_1)] [])) t
    refine XS.iloadN X2.here hx rfl (hb hby d1_24) rfl ?_
    show Steps p.tables e below (T2.setTop (mkF m 25 #[.val (.int (1 : Int32)), .val (.int p1), .val (.int p2), .val (.int p3), .val (.ref b1_1)] [(.int (1 : Int32))])) t
    refine XS.iconst X2.here hx rfl (hb hby d1_25) ?_
    show Steps p.tables e below (T2.setTop (mkF m 26 #[.val (.int (1 : Int32)), .val (.int p1), .val (.int p2), .val (.int p3), .val (.ref b1_1)] [(.int (2 : Int32)), (.int (1 : Int32))])) t
    refine XS.icmpYes X2.here hx rfl (pc0 := 26) (pc' := 34) rfl (hb hby d1_26) rfl (flt ((by decide))).2.2.2 (by decide) (by decide) ?_
    show Steps p.tables e below (T2.setTop (mkF m 34 #[.val (.int (1 : Int32)), .val (.int p1), .val (.int p2), .val (.int p3), .val (.ref b1_1)] [])) t
    refine XS.aload X2.here hx rfl (hb hby d1_34) rfl rfl ?_
    show Steps p.tables e below (T2.setTop (mkF m 36 #[.val (.int (1 : Int32)), .val (.int p1), .val (.int p2), .val (.int p3), .val (.ref b1_1)] [(.ref b1_1)])) t
    exact k
  exact OEnd.ref X2 hx Bd.returns rfl hlk (hb hby d1_36) ⟨b1_1, rfl, gle_b1_1, sz_b1_1, N2, (own_at e2 (P := fun h => Keep h0 h []) K2), (own_at e2 (P := fun h => OArr Z h b1_1 .int (1 : Int32) [(.int p1)] (.int (0 : Int32))) V2)⟩ (by decide) (by decide)
theorem d1_19 : decode method_3_code 19 = .ok (.aload 4, 2) := by decide +kernel
theorem d1_21 : decode method_3_code 21 = .ok (.iconst 1, 1) := by decide +kernel
theorem d1_22 : decode method_3_code 22 = .ok (.iload_n 2, 1) := by decide +kernel
theorem d1_23 : decode method_3_code 23 = .ok (.iastore, 1) := by decide +kernel
theorem ef_1_2 (m : MethodId) (x1 : Int32) (x2 : Int32) (x3 : Int32) : entryFrame m #[(.int (2 : Int32)), (.int x1), (.int x2), (.int x3)] 5 = mkF m 0 #[.val (.int (2 : Int32)), .val (.int x1), .val (.int x2), .val (.int x3), .unset] [] := by first | (simp [entryFrame, mkF, argsToLocals, Value.category]; done) | rfl
def Q1_2 (Z : State) (p1 : Int32) (p2 : Int32) (p3 : Int32) (h0 : Heap) (n0 : Nat) (v : Option Value) (h : Heap) (L : List Loc) : Prop := ∃ r : Addr, v = some (.ref r) ∧ n0 ≤ r ∧ h0.size ≤ r ∧ Fr n0 L ∧ Keep h0 h [] ∧ OArr Z h r .int (2 : Int32) [(.int p1), (.int p2)] (.int (0 : Int32))
set_option maxRecDepth 65536 in
set_option maxHeartbeats 40000000 in
theorem rm1_2 (l : Launch) (Z : State) (aZ : Array Value) (hw : ∀ d ∈ tables_1, d.before aZ Z = true) (ws : List Jvm.Cond) (p1 : Int32) (p2 : Int32) (p3 : Int32) (h0 : Heap) (n0 : Nat) (Z0 : n0 ≤ h0.size) :
    MetFree l (⟨"com/example/assentor/assentor/check/OdometerBeforePinLaw", "mk", "(IIII)[I"⟩ : MethodName) (head1 (Jvm.Cond.code (⟨"com/example/assentor/assentor/check/OdometerBeforePinLaw", "mk", "(IIII)[I"⟩ : MethodName) method_3_code 5 (some (.array .int)) :: ws) ({ frames := 0, cells := 1, slots := 2, locals := 0 } : Room)) (fun a U => a = #[(.int (2 : Int32)), (.int p1), (.int p2), (.int p3)] ∧ Z.Warmed39 U.vm ∧ U.heap = h0) (fun _ _ _ _ _ => True) (fun _ U o U' => ∃ v L, o = .returned v ∧ Q1_2 Z p1 p2 p3 h0 n0 v U'.heap L ∧ FrameEnd U o U' L ({ frames := 0, cells := 1, slots := 2, locals := 0 } : Room).cells ({ frames := 0, cells := 1, slots := 2, locals := 0 } : Room).slots) := by
  refine MetFree.of_bodySF (plainFor_of_name pn_com_example_assentor_assentor_check_OdometerBeforePinLaw) hisR ?_
  intro p e s m args below meth c s₁ Bd hml0 hP hK
  obtain ⟨rfl, hZ, hh⟩ := hP
  have hx := Bd.exec
  have hby := Bd.bytes
  have hlk : meth.locks = false := BodyLoose.notSynchronized Bd
  have hml : c.maxLocals = 5 := hml0
  have hown : s.vm.findClass "com/example/assentor/assentor/check/OdometerBeforePinLaw" = some m.cls := findClass_of_methodNamed Bd.named
  have hnm := (name_of_methodNamed Bd.named Bd.method).1
  have X0 : Stand p l e ({ frames := 0, cells := 1, slots := 2, locals := 0 } : Room) s m #[(.int (2 : Int32)), (.int p1), (.int p2), (.int p3)] below meth c s₁ [] 0 0 := Stand.of_body Bd
  have e0 : s₁.heap = h0 := by rw [← hh, Bd.state]; rfl
  have N0 := Fr.nil n0
  have K0 : Keep h0 h0 [] := Keep.refl _ _
  show OEnd p e below s s₁ (entryFrame m #[(.int (2 : Int32)), (.int p1), (.int p2), (.int p3)] 5) (Q1_2 Z p1 p2 p3 h0 n0) ({ frames := 0, cells := 1, slots := 2, locals := 0 } : Room).cells ({ frames := 0, cells := 1, slots := 2, locals := 0 } : Room).slots
  refine OEnd.go (g' := (mkF m 0 #[.val (.int (2 : Int32)), .val (.int p1), .val (.int p2), .val (.int p3), .unset] [])) (fun _ k => castTop (ef_1_2 m p1 p2 p3) k) ?_
  refine OEnd.go (T' := s₁) (g' := (mkF m 1 #[.val (.int (2 : Int32)), .val (.int p1), .val (.int p2), .val (.int p3), .unset] [(.int (2 : Int32))])) (fun t k => ?_) ?_
  · show Steps p.tables e below (s₁.setTop (mkF m 0 #[.val (.int (2 : Int32)), .val (.int p1), .val (.int p2), .val (.int p3), .unset] [])) t
    refine XS.iloadN X0.here hx rfl (hb hby d1_0) rfl ?_
    show Steps p.tables e below (s₁.setTop (mkF m 1 #[.val (.int (2 : Int32)), .val (.int p1), .val (.int p2), .val (.int p3), .unset] [(.int (2 : Int32))])) t
    exact k
  obtain ⟨T1, h1, k1, X1, e1, E1, A1, st1⟩ := newP X0 hx hZ (hw _ (List.mem_of_getElem? (i := 4) rfl)) e0 (g := (mkF m 1 #[.val (.int (2 : Int32)), .val (.int p1), .val (.int p2), .val (.int p3), .unset] [(.int (2 : Int32))])) rfl (hb hby d1_1) rfl (by decide) (cap := 2) (by decide) (by decide) (by decide) (by decide)
  obtain ⟨b1_1, g1⟩ : ∃ z, z = h0.size := ⟨_, rfl⟩
  rw [← g1] at A1 st1
  have gle_b1_1 : n0 ≤ b1_1 := Nat.le_trans Z0 (Nat.le_of_eq g1.symm)
  have sz_b1_1 : h0.size ≤ b1_1 := Nat.le_trans K0.1 (Nat.le_of_eq g1.symm)
  have Z1 : n0 ≤ h1.size := Nat.le_trans Z0 E1.1
  have K1 : Keep h0 h1 [] := K0.ext E1
  have V1 : OArr Z h1 b1_1 .int (2 : Int32) [(.int (0 : Int32)), (.int (0 : Int32))] (.int (0 : Int32)) := ⟨_, (Arv.new A1 (by decide)).pad (pad_rep [] (.int (0 : Int32)) 2)⟩
  refine OEnd.go (g' := (mkF m 3 #[.val (.int (2 : Int32)), .val (.int p1), .val (.int p2), .val (.int p3), .unset] [(.ref b1_1)])) st1 ?_
  refine OEnd.go (T' := T1) (g' := (mkF m 13 #[.val (.int (2 : Int32)), .val (.int p1), .val (.int p2), .val (.int p3), .val (.ref b1_1)] [(.int p1), (.int (0 : Int32)), (.ref b1_1)])) (fun t k => ?_) ?_
  · show Steps p.tables e below (T1.setTop (mkF m 3 #[.val (.int (2 : Int32)), .val (.int p1), .val (.int p2), .val (.int p3), .unset] [(.ref b1_1)])) t
    refine XS.astore X1.here hx rfl (hb hby d1_3) rfl rfl (l' := #[.val (.int (2 : Int32)), .val (.int p1), .val (.int p2), .val (.int p3), .val (.ref b1_1)]) rfl ?_
    show Steps p.tables e below (T1.setTop (mkF m 5 #[.val (.int (2 : Int32)), .val (.int p1), .val (.int p2), .val (.int p3), .val (.ref b1_1)] [])) t
    refine XS.iloadN X1.here hx rfl (hb hby d1_5) rfl ?_
    show Steps p.tables e below (T1.setTop (mkF m 6 #[.val (.int (2 : Int32)), .val (.int p1), .val (.int p2), .val (.int p3), .val (.ref b1_1)] [(.int (2 : Int32))])) t
    refine XS.ifNo X1.here hx rfl (hb hby d1_6) rfl ((if0 _ _).trans (tlt ((by decide))).2.2.2) ?_
    show Steps p.tables e below (T1.setTop (mkF m 9 #[.val (.int (2 : Int32)), .val (.int p1), .val (.int p2), .val (.int p3), .val (.ref b1_1)] [])) t
    refine XS.aload X1.here hx rfl (hb hby d1_9) rfl rfl ?_
    show Steps p.tables e below (T1.setTop (mkF m 11 #[.val (.int (2 : Int32)), .val (.int p1), .val (.int p2), .val (.int p3), .val (.ref b1_1)] [(.ref b1_1)])) t
    refine XS.iconst X1.here hx rfl (hb hby d1_11) ?_
    show Steps p.tables e below (T1.setTop (mkF m 12 #[.val (.int (2 : Int32)), .val (.int p1), .val (.int p2), .val (.int p3), .val (.ref b1_1)] [(.int (0 : Int32)), (.ref b1_1)])) t
    refine XS.iloadN X1.here hx rfl (hb hby d1_12) rfl ?_
    show Steps p.tables e below (T1.setTop (mkF m 13 #[.val (.int (2 : Int32)), .val (.int p1), .val (.int p2), .val (.int p3), .val (.ref b1_1)] [(.int p1), (.int (0 : Int32)), (.ref b1_1)])) t
    exact k
  obtain ⟨kc2, cl2, Ar2, q2, S2, M2, H2, G2⟩ := id V1
  have hin2 : ¬ ((0 : Int32) < 0 ∨ cl2.slots.size ≤ ((0 : Int32)).toNatClampNeg) := inb_of S2 ⟨by decide, by decide⟩
  obtain ⟨T2, h2, X2, e2, W2, st2⟩ := stI X1 hx hZ e1 Ar2 (j := (0 : Int32)) hin2 (g := (mkF m 13 #[.val (.int (2 : Int32)), .val (.int p1), .val (.int p2), .val (.int p3), .val (.ref b1_1)] [(.int p1), (.int (0 : Int32)), (.ref b1_1)])) rfl rfl (hb hby d1_13)
  have N2 := Fr.snoc X2 N0 gle_b1_1
  have Z2 : n0 ≤ h2.size := Nat.le_trans Z1 (Keep.of_wr W2).1
  have K2 : Keep h0 h2 [] := K1.wr W2 (Or.inr sz_b1_1)
  have V2 : OArr Z h2 b1_1 .int (2 : Int32) [(.int p1), (.int (0 : Int32))] (.int (0 : Int32)) := ⟨_, Arv.set Ar2 q2 S2 M2 H2 G2 rfl W2 0 rfl (Nat.le_of_ble_eq_true rfl)⟩
  refine OEnd.go (g' := (mkF m 14 #[.val (.int (2 : Int32)), .val (.int p1), .val (.int p2), .val (.int p3), .val (.ref b1_1)] [])) st2 ?_
  refine OEnd.go (T' := T2) (g' := (mkF m 23 #[.val (.int (2 : Int32)), .val (.int p1), .val (.int p2), .val (.int p3), .val (.ref b1_1)] [(.int p2), (.int (1 : Int32)), (.ref b1_1)])) (fun t k => ?_) ?_
  · show Steps p.tables e below (T2.setTop (mkF m 14 #[.val (.int (2 : Int32)), .val (.int p1), .val (.int p2), .val (.int p3), .val (.ref b1_1)] [])) t
    refine XS.iloadN X2.here hx rfl (hb hby d1_14) rfl ?_
    show Steps p.tables e below (T2.setTop (mkF m 15 #[.val (.int (2 : Int32)), .val (.int p1), .val (.int p2), .val (.int p3), .val (.ref b1_1)] [(.int (2 : Int32))])) t
    refine XS.iconst X2.here hx rfl (hb hby d1_15) ?_
    show Steps p.tables e below (T2.setTop (mkF m 16 #[.val (.int (2 : Int32)), .val (.int p1), .val (.int p2), .val (.int p3), .val (.ref b1_1)] [(.int (1 : Int32)), (.int (2 : Int32))])) t
    refine XS.icmpNo X2.here hx rfl (hb hby d1_16) rfl (tlt ((by decide))).2.2.2 ?_
    show Steps p.tables e below (T2.setTop (mkF m 19 #[.val (.int (2 : Int32)), .val (.int p1), .val (.int p2), .val (.int p3), .val (.ref b1_1)] [])) t
    refine XS.aload X2.here hx rfl (hb hby d1_19) rfl rfl ?_
    show Steps p.tables e below (T2.setTop (mkF m 21 #[.val (.int (2 : Int32)), .val (.int p1), .val (.int p2), .val (.int p3), .val (.ref b1_1)] [(.ref b1_1)])) t
    refine XS.iconst X2.here hx rfl (hb hby d1_21) ?_
    show Steps p.tables e below (T2.setTop (mkF m 22 #[.val (.int (2 : Int32)), .val (.int p1), .val (.int p2), .val (.int p3), .val (.ref b1_1)] [(.int (1 : Int32)), (.ref b1_1)])) t
    refine XS.iloadN X2.here hx rfl (hb hby d1_22) rfl ?_
    show Steps p.tables e below (T2.setTop (mkF m 23 #[.val (.int (2 : Int32)), .val (.int p1), .val (.int p2), .val (.int p3), .val (.ref b1_1)] [(.int p2), (.int (1 : Int32)), (.ref b1_1)])) t
    exact k
  obtain ⟨kc3, cl3, Ar3, q3, S3, M3, H3, G3⟩ := id V2
  have hin3 : ¬ ((1 : Int32) < 0 ∨ cl3.slots.size ≤ ((1 : Int32)).toNatClampNeg) := inb_of S3 ⟨by decide, by decide⟩
  obtain ⟨T3, h3, X3, e3, W3, st3⟩ := stI X2 hx hZ e2 Ar3 (j := (1 : Int32)) hin3 (g := (mkF m 23 #[.val (.int (2 : Int32)), .val (.int p1), .val (.int p2), .val (.int p3), .val (.ref b1_1)] [(.int p2), (.int (1 : Int32)), (.ref b1_1)])) rfl rfl (hb hby d1_23)
  have N3 := Fr.snoc X3 N2 gle_b1_1
  have Z3 : n0 ≤ h3.size := Nat.le_trans Z2 (Keep.of_wr W3).1
  have K3 : Keep h0 h3 [] := K2.wr W3 (Or.inr sz_b1_1)
  have V3 : OArr Z h3 b1_1 .int (2 : Int32) [(.int p1), (.int p2)] (.int (0 : Int32)) := ⟨_, Arv.set Ar3 q3 S3 M3 H3 G3 rfl W3 1 rfl (Nat.le_of_ble_eq_true rfl)⟩
  refine OEnd.go (g' := (mkF m 24 #[.val (.int (2 : Int32)), .val (.int p1), .val (.int p2), .val (.int p3), .val (.ref b1_1)] [])) st3 ?_
  refine OEnd.go (T' := T3) (g' := (mkF m 36 #[.val (.int (2 : Int32)), .val (.int p1), .val (.int p2), .val (.int p3), .val (.ref b1_1)] [(.ref b1_1)])) (fun t k => ?_) ?_
  · show Steps p.tables e below (T3.setTop (mkF m 24 #[.val (.int (2 : Int32)), .val (.int p1), .val (.int p2), .val (.int p3), .val (.ref b1_1)] [])) t
    refine XS.iloadN X3.here hx rfl (hb hby d1_24) rfl ?_
    show Steps p.tables e below (T3.setTop (mkF m 25 #[.val (.int (2 : Int32)), .val (.int p1), .val (.int p2), .val (.int p3), .val (.ref b1_1)] [(.int (2 : Int32))])) t
    refine XS.iconst X3.here hx rfl (hb hby d1_25) ?_
    show Steps p.tables e below (T3.setTop (mkF m 26 #[.val (.int (2 : Int32)), .val (.int p1), .val (.int p2), .val (.int p3), .val (.ref b1_1)] [(.int (2 : Int32)), (.int (2 : Int32))])) t
    refine XS.icmpYes X3.here hx rfl (pc0 := 26) (pc' := 34) rfl (hb hby d1_26) rfl (flt ((by decide))).2.2.2 (by decide) (by decide) ?_
    show Steps p.tables e below (T3.setTop (mkF m 34 #[.val (.int (2 : Int32)), .val (.int p1), .val (.int p2), .val (.int p3), .val (.ref b1_1)] [])) t
    refine XS.aload X3.here hx rfl (hb hby d1_34) rfl rfl ?_
    show Steps p.tables e below (T3.setTop (mkF m 36 #[.val (.int (2 : Int32)), .val (.int p1), .val (.int p2), .val (.int p3), .val (.ref b1_1)] [(.ref b1_1)])) t
    exact k
  exact OEnd.ref X3 hx Bd.returns rfl hlk (hb hby d1_36) ⟨b1_1, rfl, gle_b1_1, sz_b1_1, N3, (own_at e3 (P := fun h => Keep h0 h []) K3), (own_at e3 (P := fun h => OArr Z h b1_1 .int (2 : Int32) [(.int p1), (.int p2)] (.int (0 : Int32))) V3)⟩ (by decide) (by decide)
theorem d1_29 : decode method_3_code 29 = .ok (.aload 4, 2) := by decide +kernel
theorem d1_31 : decode method_3_code 31 = .ok (.iconst 2, 1) := by decide +kernel
theorem d1_32 : decode method_3_code 32 = .ok (.iload_n 3, 1) := by decide +kernel
theorem d1_33 : decode method_3_code 33 = .ok (.iastore, 1) := by decide +kernel
theorem ef_1_3 (m : MethodId) (x1 : Int32) (x2 : Int32) (x3 : Int32) : entryFrame m #[(.int (3 : Int32)), (.int x1), (.int x2), (.int x3)] 5 = mkF m 0 #[.val (.int (3 : Int32)), .val (.int x1), .val (.int x2), .val (.int x3), .unset] [] := by first | (simp [entryFrame, mkF, argsToLocals, Value.category]; done) | rfl
def Q1_3 (Z : State) (p1 : Int32) (p2 : Int32) (p3 : Int32) (h0 : Heap) (n0 : Nat) (v : Option Value) (h : Heap) (L : List Loc) : Prop := ∃ r : Addr, v = some (.ref r) ∧ n0 ≤ r ∧ h0.size ≤ r ∧ Fr n0 L ∧ Keep h0 h [] ∧ OArr Z h r .int (3 : Int32) [(.int p1), (.int p2), (.int p3)] (.int (0 : Int32))
set_option maxRecDepth 65536 in
set_option maxHeartbeats 40000000 in
theorem rm1_3 (l : Launch) (Z : State) (aZ : Array Value) (hw : ∀ d ∈ tables_1, d.before aZ Z = true) (ws : List Jvm.Cond) (p1 : Int32) (p2 : Int32) (p3 : Int32) (h0 : Heap) (n0 : Nat) (Z0 : n0 ≤ h0.size) :
    MetFree l (⟨"com/example/assentor/assentor/check/OdometerBeforePinLaw", "mk", "(IIII)[I"⟩ : MethodName) (head1 (Jvm.Cond.code (⟨"com/example/assentor/assentor/check/OdometerBeforePinLaw", "mk", "(IIII)[I"⟩ : MethodName) method_3_code 5 (some (.array .int)) :: ws) ({ frames := 0, cells := 1, slots := 3, locals := 0 } : Room)) (fun a U => a = #[(.int (3 : Int32)), (.int p1), (.int p2), (.int p3)] ∧ Z.Warmed39 U.vm ∧ U.heap = h0) (fun _ _ _ _ _ => True) (fun _ U o U' => ∃ v L, o = .returned v ∧ Q1_3 Z p1 p2 p3 h0 n0 v U'.heap L ∧ FrameEnd U o U' L ({ frames := 0, cells := 1, slots := 3, locals := 0 } : Room).cells ({ frames := 0, cells := 1, slots := 3, locals := 0 } : Room).slots) := by
  refine MetFree.of_bodySF (plainFor_of_name pn_com_example_assentor_assentor_check_OdometerBeforePinLaw) hisR ?_
  intro p e s m args below meth c s₁ Bd hml0 hP hK
  obtain ⟨rfl, hZ, hh⟩ := hP
  have hx := Bd.exec
  have hby := Bd.bytes
  have hlk : meth.locks = false := BodyLoose.notSynchronized Bd
  have hml : c.maxLocals = 5 := hml0
  have hown : s.vm.findClass "com/example/assentor/assentor/check/OdometerBeforePinLaw" = some m.cls := findClass_of_methodNamed Bd.named
  have hnm := (name_of_methodNamed Bd.named Bd.method).1
  have X0 : Stand p l e ({ frames := 0, cells := 1, slots := 3, locals := 0 } : Room) s m #[(.int (3 : Int32)), (.int p1), (.int p2), (.int p3)] below meth c s₁ [] 0 0 := Stand.of_body Bd
  have e0 : s₁.heap = h0 := by rw [← hh, Bd.state]; rfl
  have N0 := Fr.nil n0
  have K0 : Keep h0 h0 [] := Keep.refl _ _
  show OEnd p e below s s₁ (entryFrame m #[(.int (3 : Int32)), (.int p1), (.int p2), (.int p3)] 5) (Q1_3 Z p1 p2 p3 h0 n0) ({ frames := 0, cells := 1, slots := 3, locals := 0 } : Room).cells ({ frames := 0, cells := 1, slots := 3, locals := 0 } : Room).slots
  refine OEnd.go (g' := (mkF m 0 #[.val (.int (3 : Int32)), .val (.int p1), .val (.int p2), .val (.int p3), .unset] [])) (fun _ k => castTop (ef_1_3 m p1 p2 p3) k) ?_
  refine OEnd.go (T' := s₁) (g' := (mkF m 1 #[.val (.int (3 : Int32)), .val (.int p1), .val (.int p2), .val (.int p3), .unset] [(.int (3 : Int32))])) (fun t k => ?_) ?_
  · show Steps p.tables e below (s₁.setTop (mkF m 0 #[.val (.int (3 : Int32)), .val (.int p1), .val (.int p2), .val (.int p3), .unset] [])) t
    refine XS.iloadN X0.here hx rfl (hb hby d1_0) rfl ?_
    show Steps p.tables e below (s₁.setTop (mkF m 1 #[.val (.int (3 : Int32)), .val (.int p1), .val (.int p2), .val (.int p3), .unset] [(.int (3 : Int32))])) t
    exact k
  obtain ⟨T1, h1, k1, X1, e1, E1, A1, st1⟩ := newP X0 hx hZ (hw _ (List.mem_of_getElem? (i := 4) rfl)) e0 (g := (mkF m 1 #[.val (.int (3 : Int32)), .val (.int p1), .val (.int p2), .val (.int p3), .unset] [(.int (3 : Int32))])) rfl (hb hby d1_1) rfl (by decide) (cap := 3) (by decide) (by decide) (by decide) (by decide)
  obtain ⟨b1_1, g1⟩ : ∃ z, z = h0.size := ⟨_, rfl⟩
  rw [← g1] at A1 st1
  have gle_b1_1 : n0 ≤ b1_1 := Nat.le_trans Z0 (Nat.le_of_eq g1.symm)
  have sz_b1_1 : h0.size ≤ b1_1 := Nat.le_trans K0.1 (Nat.le_of_eq g1.symm)
  have Z1 : n0 ≤ h1.size := Nat.le_trans Z0 E1.1
  have K1 : Keep h0 h1 [] := K0.ext E1
  have V1 : OArr Z h1 b1_1 .int (3 : Int32) [(.int (0 : Int32)), (.int (0 : Int32)), (.int (0 : Int32))] (.int (0 : Int32)) := ⟨_, (Arv.new A1 (by decide)).pad (pad_rep [] (.int (0 : Int32)) 3)⟩
  refine OEnd.go (g' := (mkF m 3 #[.val (.int (3 : Int32)), .val (.int p1), .val (.int p2), .val (.int p3), .unset] [(.ref b1_1)])) st1 ?_
  refine OEnd.go (T' := T1) (g' := (mkF m 13 #[.val (.int (3 : Int32)), .val (.int p1), .val (.int p2), .val (.int p3), .val (.ref b1_1)] [(.int p1), (.int (0 : Int32)), (.ref b1_1)])) (fun t k => ?_) ?_
  · show Steps p.tables e below (T1.setTop (mkF m 3 #[.val (.int (3 : Int32)), .val (.int p1), .val (.int p2), .val (.int p3), .unset] [(.ref b1_1)])) t
    refine XS.astore X1.here hx rfl (hb hby d1_3) rfl rfl (l' := #[.val (.int (3 : Int32)), .val (.int p1), .val (.int p2), .val (.int p3), .val (.ref b1_1)]) rfl ?_
    show Steps p.tables e below (T1.setTop (mkF m 5 #[.val (.int (3 : Int32)), .val (.int p1), .val (.int p2), .val (.int p3), .val (.ref b1_1)] [])) t
    refine XS.iloadN X1.here hx rfl (hb hby d1_5) rfl ?_
    show Steps p.tables e below (T1.setTop (mkF m 6 #[.val (.int (3 : Int32)), .val (.int p1), .val (.int p2), .val (.int p3), .val (.ref b1_1)] [(.int (3 : Int32))])) t
    refine XS.ifNo X1.here hx rfl (hb hby d1_6) rfl ((if0 _ _).trans (tlt ((by decide))).2.2.2) ?_
    show Steps p.tables e below (T1.setTop (mkF m 9 #[.val (.int (3 : Int32)), .val (.int p1), .val (.int p2), .val (.int p3), .val (.ref b1_1)] [])) t
    refine XS.aload X1.here hx rfl (hb hby d1_9) rfl rfl ?_
    show Steps p.tables e below (T1.setTop (mkF m 11 #[.val (.int (3 : Int32)), .val (.int p1), .val (.int p2), .val (.int p3), .val (.ref b1_1)] [(.ref b1_1)])) t
    refine XS.iconst X1.here hx rfl (hb hby d1_11) ?_
    show Steps p.tables e below (T1.setTop (mkF m 12 #[.val (.int (3 : Int32)), .val (.int p1), .val (.int p2), .val (.int p3), .val (.ref b1_1)] [(.int (0 : Int32)), (.ref b1_1)])) t
    refine XS.iloadN X1.here hx rfl (hb hby d1_12) rfl ?_
    show Steps p.tables e below (T1.setTop (mkF m 13 #[.val (.int (3 : Int32)), .val (.int p1), .val (.int p2), .val (.int p3), .val (.ref b1_1)] [(.int p1), (.int (0 : Int32)), (.ref b1_1)])) t
    exact k
  obtain ⟨kc2, cl2, Ar2, q2, S2, M2, H2, G2⟩ := id V1
  have hin2 : ¬ ((0 : Int32) < 0 ∨ cl2.slots.size ≤ ((0 : Int32)).toNatClampNeg) := inb_of S2 ⟨by decide, by decide⟩
  obtain ⟨T2, h2, X2, e2, W2, st2⟩ := stI X1 hx hZ e1 Ar2 (j := (0 : Int32)) hin2 (g := (mkF m 13 #[.val (.int (3 : Int32)), .val (.int p1), .val (.int p2), .val (.int p3), .val (.ref b1_1)] [(.int p1), (.int (0 : Int32)), (.ref b1_1)])) rfl rfl (hb hby d1_13)
  have N2 := Fr.snoc X2 N0 gle_b1_1
  have Z2 : n0 ≤ h2.size := Nat.le_trans Z1 (Keep.of_wr W2).1
  have K2 : Keep h0 h2 [] := K1.wr W2 (Or.inr sz_b1_1)
  have V2 : OArr Z h2 b1_1 .int (3 : Int32) [(.int p1), (.int (0 : Int32)), (.int (0 : Int32))] (.int (0 : Int32)) := ⟨_, Arv.set Ar2 q2 S2 M2 H2 G2 rfl W2 0 rfl (Nat.le_of_ble_eq_true rfl)⟩
  refine OEnd.go (g' := (mkF m 14 #[.val (.int (3 : Int32)), .val (.int p1), .val (.int p2), .val (.int p3), .val (.ref b1_1)] [])) st2 ?_
  refine OEnd.go (T' := T2) (g' := (mkF m 23 #[.val (.int (3 : Int32)), .val (.int p1), .val (.int p2), .val (.int p3), .val (.ref b1_1)] [(.int p2), (.int (1 : Int32)), (.ref b1_1)])) (fun t k => ?_) ?_
  · show Steps p.tables e below (T2.setTop (mkF m 14 #[.val (.int (3 : Int32)), .val (.int p1), .val (.int p2), .val (.int p3), .val (.ref b1_1)] [])) t
    refine XS.iloadN X2.here hx rfl (hb hby d1_14) rfl ?_
    show Steps p.tables e below (T2.setTop (mkF m 15 #[.val (.int (3 : Int32)), .val (.int p1), .val (.int p2), .val (.int p3), .val (.ref b1_1)] [(.int (3 : Int32))])) t
    refine XS.iconst X2.here hx rfl (hb hby d1_15) ?_
    show Steps p.tables e below (T2.setTop (mkF m 16 #[.val (.int (3 : Int32)), .val (.int p1), .val (.int p2), .val (.int p3), .val (.ref b1_1)] [(.int (1 : Int32)), (.int (3 : Int32))])) t
    refine XS.icmpNo X2.here hx rfl (hb hby d1_16) rfl (tlt ((by decide))).2.2.2 ?_
    show Steps p.tables e below (T2.setTop (mkF m 19 #[.val (.int (3 : Int32)), .val (.int p1), .val (.int p2), .val (.int p3), .val (.ref b1_1)] [])) t
    refine XS.aload X2.here hx rfl (hb hby d1_19) rfl rfl ?_
    show Steps p.tables e below (T2.setTop (mkF m 21 #[.val (.int (3 : Int32)), .val (.int p1), .val (.int p2), .val (.int p3), .val (.ref b1_1)] [(.ref b1_1)])) t
    refine XS.iconst X2.here hx rfl (hb hby d1_21) ?_
    show Steps p.tables e below (T2.setTop (mkF m 22 #[.val (.int (3 : Int32)), .val (.int p1), .val (.int p2), .val (.int p3), .val (.ref b1_1)] [(.int (1 : Int32)), (.ref b1_1)])) t
    refine XS.iloadN X2.here hx rfl (hb hby d1_22) rfl ?_
    show Steps p.tables e below (T2.setTop (mkF m 23 #[.val (.int (3 : Int32)), .val (.int p1), .val (.int p2), .val (.int p3), .val (.ref b1_1)] [(.int p2), (.int (1 : Int32)), (.ref b1_1)])) t
    exact k
  obtain ⟨kc3, cl3, Ar3, q3, S3, M3, H3, G3⟩ := id V2
  have hin3 : ¬ ((1 : Int32) < 0 ∨ cl3.slots.size ≤ ((1 : Int32)).toNatClampNeg) := inb_of S3 ⟨by decide, by decide⟩
  obtain ⟨T3, h3, X3, e3, W3, st3⟩ := stI X2 hx hZ e2 Ar3 (j := (1 : Int32)) hin3 (g := (mkF m 23 #[.val (.int (3 : Int32)), .val (.int p1), .val (.int p2), .val (.int p3), .val (.ref b1_1)] [(.int p2), (.int (1 : Int32)), (.ref b1_1)])) rfl rfl (hb hby d1_23)
  have N3 := Fr.snoc X3 N2 gle_b1_1
  have Z3 : n0 ≤ h3.size := Nat.le_trans Z2 (Keep.of_wr W3).1
  have K3 : Keep h0 h3 [] := K2.wr W3 (Or.inr sz_b1_1)
  have V3 : OArr Z h3 b1_1 .int (3 : Int32) [(.int p1), (.int p2), (.int (0 : Int32))] (.int (0 : Int32)) := ⟨_, Arv.set Ar3 q3 S3 M3 H3 G3 rfl W3 1 rfl (Nat.le_of_ble_eq_true rfl)⟩
  refine OEnd.go (g' := (mkF m 24 #[.val (.int (3 : Int32)), .val (.int p1), .val (.int p2), .val (.int p3), .val (.ref b1_1)] [])) st3 ?_
  refine OEnd.go (T' := T3) (g' := (mkF m 33 #[.val (.int (3 : Int32)), .val (.int p1), .val (.int p2), .val (.int p3), .val (.ref b1_1)] [(.int p3), (.int (2 : Int32)), (.ref b1_1)])) (fun t k => ?_) ?_
  · show Steps p.tables e below (T3.setTop (mkF m 24 #[.val (.int (3 : Int32)), .val (.int p1), .val (.int p2), .val (.int p3), .val (.ref b1_1)] [])) t
    refine XS.iloadN X3.here hx rfl (hb hby d1_24) rfl ?_
    show Steps p.tables e below (T3.setTop (mkF m 25 #[.val (.int (3 : Int32)), .val (.int p1), .val (.int p2), .val (.int p3), .val (.ref b1_1)] [(.int (3 : Int32))])) t
    refine XS.iconst X3.here hx rfl (hb hby d1_25) ?_
    show Steps p.tables e below (T3.setTop (mkF m 26 #[.val (.int (3 : Int32)), .val (.int p1), .val (.int p2), .val (.int p3), .val (.ref b1_1)] [(.int (2 : Int32)), (.int (3 : Int32))])) t
    refine XS.icmpNo X3.here hx rfl (hb hby d1_26) rfl (tlt ((by decide))).2.2.2 ?_
    show Steps p.tables e below (T3.setTop (mkF m 29 #[.val (.int (3 : Int32)), .val (.int p1), .val (.int p2), .val (.int p3), .val (.ref b1_1)] [])) t
    refine XS.aload X3.here hx rfl (hb hby d1_29) rfl rfl ?_
    show Steps p.tables e below (T3.setTop (mkF m 31 #[.val (.int (3 : Int32)), .val (.int p1), .val (.int p2), .val (.int p3), .val (.ref b1_1)] [(.ref b1_1)])) t
    refine XS.iconst X3.here hx rfl (hb hby d1_31) ?_
    show Steps p.tables e below (T3.setTop (mkF m 32 #[.val (.int (3 : Int32)), .val (.int p1), .val (.int p2), .val (.int p3), .val (.ref b1_1)] [(.int (2 : Int32)), (.ref b1_1)])) t
    refine XS.iloadN X3.here hx rfl (hb hby d1_32) rfl ?_
    show Steps p.tables e below (T3.setTop (mkF m 33 #[.val (.int (3 : Int32)), .val (.int p1), .val (.int p2), .val (.int p3), .val (.ref b1_1)] [(.int p3), (.int (2 : Int32)), (.ref b1_1)])) t
    exact k
  obtain ⟨kc4, cl4, Ar4, q4, S4, M4, H4, G4⟩ := id V3
  have hin4 : ¬ ((2 : Int32) < 0 ∨ cl4.slots.size ≤ ((2 : Int32)).toNatClampNeg) := inb_of S4 ⟨by decide, by decide⟩
  obtain ⟨T4, h4, X4, e4, W4, st4⟩ := stI X3 hx hZ e3 Ar4 (j := (2 : Int32)) hin4 (g := (mkF m 33 #[.val (.int (3 : Int32)), .val (.int p1), .val (.int p2), .val (.int p3), .val (.ref b1_1)] [(.int p3), (.int (2 : Int32)), (.ref b1_1)])) rfl rfl (hb hby d1_33)
  have N4 := Fr.snoc X4 N3 gle_b1_1
  have Z4 : n0 ≤ h4.size := Nat.le_trans Z3 (Keep.of_wr W4).1
  have K4 : Keep h0 h4 [] := K3.wr W4 (Or.inr sz_b1_1)
  have V4 : OArr Z h4 b1_1 .int (3 : Int32) [(.int p1), (.int p2), (.int p3)] (.int (0 : Int32)) := ⟨_, Arv.set Ar4 q4 S4 M4 H4 G4 rfl W4 2 rfl (Nat.le_of_ble_eq_true rfl)⟩
  refine OEnd.go (g' := (mkF m 34 #[.val (.int (3 : Int32)), .val (.int p1), .val (.int p2), .val (.int p3), .val (.ref b1_1)] [])) st4 ?_
  refine OEnd.go (T' := T4) (g' := (mkF m 36 #[.val (.int (3 : Int32)), .val (.int p1), .val (.int p2), .val (.int p3), .val (.ref b1_1)] [(.ref b1_1)])) (fun t k => ?_) ?_
  · show Steps p.tables e below (T4.setTop (mkF m 34 #[.val (.int (3 : Int32)), .val (.int p1), .val (.int p2), .val (.int p3), .val (.ref b1_1)] [])) t
    refine XS.aload X4.here hx rfl (hb hby d1_34) rfl rfl ?_
    show Steps p.tables e below (T4.setTop (mkF m 36 #[.val (.int (3 : Int32)), .val (.int p1), .val (.int p2), .val (.int p3), .val (.ref b1_1)] [(.ref b1_1)])) t
    exact k
  exact OEnd.ref X4 hx Bd.returns rfl hlk (hb hby d1_36) ⟨b1_1, rfl, gle_b1_1, sz_b1_1, N4, (own_at e4 (P := fun h => Keep h0 h []) K4), (own_at e4 (P := fun h => OArr Z h b1_1 .int (3 : Int32) [(.int p1), (.int p2), (.int p3)] (.int (0 : Int32))) V4)⟩ (by decide) (by decide)
theorem d2_0 : decode prog_15_method_3_code 0 = .ok (.aload_n 0, 1) := by decide +kernel
theorem d2_1 : decode prog_15_method_3_code 1 = .ok (.arraylength, 1) := by decide +kernel
theorem d2_2 : decode prog_15_method_3_code 2 = .ok (.iconst 1, 1) := by decide +kernel
theorem d2_3 : decode prog_15_method_3_code 3 = .ok (.isub, 1) := by decide +kernel
theorem d2_4 : decode prog_15_method_3_code 4 = .ok (.istore_n 2, 1) := by decide +kernel
theorem d2_5 : decode prog_15_method_3_code 5 = .ok (.iload_n 2, 1) := by decide +kernel
theorem d2_6 : decode prog_15_method_3_code 6 = .ok (.ifCond .lt 33, 3) := by decide +kernel
theorem d2_39 : decode prog_15_method_3_code 39 = .ok (.iconst 0, 1) := by decide +kernel
theorem d2_40 : decode prog_15_method_3_code 40 = .ok (.ireturn, 1) := by decide +kernel
def f2_0  : Int32 := nar .boolean (0 : Int32)
theorem pn_com_example_assentor_assentor_check_Odometer : plainName "com/example/assentor/assentor/check/Odometer" = true := by first | (simp [plainName, overriddenIn]; done) | decide +kernel
theorem ef_2_0 (m : MethodId) (x0 : Addr) (x1 : Addr) : entryFrame m #[(.ref x0), (.ref x1)] 3 = mkF m 0 #[.val (.ref x0), .val (.ref x1), .unset] [] := by first | (simp [entryFrame, mkF, argsToLocals, Value.category]; done) | rfl
def Q2_0 (Z : State) (a0 : Addr) (a1 : Addr) (h0 : Heap) (n0 : Nat) (v : Option Value) (h : Heap) (L : List Loc) : Prop := v = some (.int f2_0) ∧ Fr n0 L ∧ h = h0
set_option maxRecDepth 65536 in
set_option maxHeartbeats 40000000 in
theorem rm2_0 (l : Launch) (Z : State) (aZ : Array Value) (hw : ∀ d ∈ tables_1, d.before aZ Z = true) (ws : List Jvm.Cond) (a0 : Addr) (a1 : Addr) (h0 : Heap) (n0 : Nat) (Z0 : n0 ≤ h0.size) (A0 : OArr Z h0 a0 .int (0 : Int32) [] (.int (0 : Int32))) (A1 : OArr Z h0 a1 .int (0 : Int32) [] (.int (0 : Int32))) :
    MetFree l (⟨"com/example/assentor/assentor/check/Odometer", "before", "([I[I)Z"⟩ : MethodName) (head1 (Jvm.Cond.code (⟨"com/example/assentor/assentor/check/Odometer", "before", "([I[I)Z"⟩ : MethodName) prog_15_method_3_code 3 (some .boolean) :: ws) ({ frames := 0, cells := 0, slots := 0, locals := 0 } : Room)) (fun a U => a = #[(.ref a0), (.ref a1)] ∧ Z.Warmed39 U.vm ∧ U.heap = h0) (fun _ _ _ _ _ => True) (fun _ U o U' => ∃ v L, o = .returned v ∧ Q2_0 Z a0 a1 h0 n0 v U'.heap L ∧ FrameEnd U o U' L ({ frames := 0, cells := 0, slots := 0, locals := 0 } : Room).cells ({ frames := 0, cells := 0, slots := 0, locals := 0 } : Room).slots) := by
  refine MetFree.of_bodySF (plainFor_of_name pn_com_example_assentor_assentor_check_Odometer) hisR ?_
  intro p e s m args below meth c s₁ Bd hml0 hP hK
  obtain ⟨rfl, hZ, hh⟩ := hP
  have hx := Bd.exec
  have hby := Bd.bytes
  have hlk : meth.locks = false := BodyLoose.notSynchronized Bd
  have hml : c.maxLocals = 3 := hml0
  have hown : s.vm.findClass "com/example/assentor/assentor/check/Odometer" = some m.cls := findClass_of_methodNamed Bd.named
  have hnm := (name_of_methodNamed Bd.named Bd.method).1
  have X0 : Stand p l e ({ frames := 0, cells := 0, slots := 0, locals := 0 } : Room) s m #[(.ref a0), (.ref a1)] below meth c s₁ [] 0 0 := Stand.of_body Bd
  have e0 : s₁.heap = h0 := by rw [← hh, Bd.state]; rfl
  have N0 := Fr.nil n0
  show OEnd p e below s s₁ (entryFrame m #[(.ref a0), (.ref a1)] 3) (Q2_0 Z a0 a1 h0 n0) ({ frames := 0, cells := 0, slots := 0, locals := 0 } : Room).cells ({ frames := 0, cells := 0, slots := 0, locals := 0 } : Room).slots
  refine OEnd.go (g' := (mkF m 0 #[.val (.ref a0), .val (.ref a1), .unset] [])) (fun _ k => castTop (ef_2_0 m a0 a1) k) ?_
  refine OEnd.go (T' := s₁) (g' := (mkF m 1 #[.val (.ref a0), .val (.ref a1), .unset] [(.ref a0)])) (fun t k => ?_) ?_
  · show Steps p.tables e below (s₁.setTop (mkF m 0 #[.val (.ref a0), .val (.ref a1), .unset] [])) t
    refine XS.aloadN X0.here hx rfl (hb hby d2_0) rfl rfl ?_
    show Steps p.tables e below (s₁.setTop (mkF m 1 #[.val (.ref a0), .val (.ref a1), .unset] [(.ref a0)])) t
    exact k
  obtain ⟨kc1, cl1, Ar1, q1, S1, M1, H1, G1⟩ := id A0
  refine OEnd.go (T' := s₁) (g' := (mkF m 2 #[.val (.ref a0), .val (.ref a1), .unset] [(.int (0 : Int32))])) (fun t k => ?_) ?_
  · refine X0.arraylength hx (by rw [e0]; exact Ar1.1) (State.isArrayOf_alike hZ.alike Ar1.2.1) (g := (mkF m 1 #[.val (.ref a0), .val (.ref a1), .unset] [(.ref a0)])) rfl rfl (hb hby d2_1) _ ?_
    rw [len_of S1 M1]
    exact k
  refine OEnd.go (T' := s₁) (g' := (mkF m 40 #[.val (.ref a0), .val (.ref a1), .val (.int (-1 : Int32))] [(.int (0 : Int32))])) (fun t k => ?_) ?_
  · show Steps p.tables e below (s₁.setTop (mkF m 2 #[.val (.ref a0), .val (.ref a1), .unset] [(.int (0 : Int32))])) t
    refine XS.iconst X0.here hx rfl (hb hby d2_2) ?_
    show Steps p.tables e below (s₁.setTop (mkF m 3 #[.val (.ref a0), .val (.ref a1), .unset] [(.int (1 : Int32)), (.int (0 : Int32))])) t
    refine XS.isub X0.here hx rfl (hb hby d2_3) rfl ?_
    show Steps p.tables e below (s₁.setTop (mkF m 4 #[.val (.ref a0), .val (.ref a1), .unset] [(.int (-1 : Int32))])) t
    refine XS.istoreN X0.here hx rfl (hb hby d2_4) rfl (l' := #[.val (.ref a0), .val (.ref a1), .val (.int (-1 : Int32))]) rfl ?_
    show Steps p.tables e below (s₁.setTop (mkF m 5 #[.val (.ref a0), .val (.ref a1), .val (.int (-1 : Int32))] [])) t
    refine XS.iloadN X0.here hx rfl (hb hby d2_5) rfl ?_
    show Steps p.tables e below (s₁.setTop (mkF m 6 #[.val (.ref a0), .val (.ref a1), .val (.int (-1 : Int32))] [(.int (-1 : Int32))])) t
    refine XS.ifYes X0.here hx rfl (pc0 := 6) (pc' := 39) rfl (hb hby d2_6) rfl ((if0 _ _).trans (tlt ((by decide))).1) (by decide) (by decide) ?_
    show Steps p.tables e below (s₁.setTop (mkF m 39 #[.val (.ref a0), .val (.ref a1), .val (.int (-1 : Int32))] [])) t
    refine XS.iconst X0.here hx rfl (hb hby d2_39) ?_
    show Steps p.tables e below (s₁.setTop (mkF m 40 #[.val (.ref a0), .val (.ref a1), .val (.int (-1 : Int32))] [(.int (0 : Int32))])) t
    exact k
  exact OEnd.nar X0 hx (t := .boolean) Bd.returns (by simp) hlk (hb hby d2_40) ⟨rfl, N0, e0⟩ (by decide) (by decide)
theorem d2_9 : decode prog_15_method_3_code 9 = .ok (.aload_n 0, 1) := by decide +kernel
theorem d2_10 : decode prog_15_method_3_code 10 = .ok (.iload_n 2, 1) := by decide +kernel
theorem d2_11 : decode prog_15_method_3_code 11 = .ok (.iaload, 1) := by decide +kernel
theorem d2_12 : decode prog_15_method_3_code 12 = .ok (.aload_n 1, 1) := by decide +kernel
theorem d2_13 : decode prog_15_method_3_code 13 = .ok (.iload_n 2, 1) := by decide +kernel
theorem d2_14 : decode prog_15_method_3_code 14 = .ok (.iaload, 1) := by decide +kernel
theorem d2_15 : decode prog_15_method_3_code 15 = .ok (.if_icmp .eq 18, 3) := by decide +kernel
theorem d2_33 : decode prog_15_method_3_code 33 = .ok (.iinc 2 (-1), 3) := by decide +kernel
theorem d2_36 : decode prog_15_method_3_code 36 = .ok (.goto (-31), 3) := by decide +kernel
theorem d2_18 : decode prog_15_method_3_code 18 = .ok (.aload_n 0, 1) := by decide +kernel
theorem d2_19 : decode prog_15_method_3_code 19 = .ok (.iload_n 2, 1) := by decide +kernel
theorem d2_20 : decode prog_15_method_3_code 20 = .ok (.iaload, 1) := by decide +kernel
theorem d2_21 : decode prog_15_method_3_code 21 = .ok (.aload_n 1, 1) := by decide +kernel
theorem d2_22 : decode prog_15_method_3_code 22 = .ok (.iload_n 2, 1) := by decide +kernel
theorem d2_23 : decode prog_15_method_3_code 23 = .ok (.iaload, 1) := by decide +kernel
theorem d2_24 : decode prog_15_method_3_code 24 = .ok (.if_icmp .ge 7, 3) := by decide +kernel
theorem d2_27 : decode prog_15_method_3_code 27 = .ok (.iconst 1, 1) := by decide +kernel
theorem d2_28 : decode prog_15_method_3_code 28 = .ok (.goto 4, 3) := by decide +kernel
theorem d2_31 : decode prog_15_method_3_code 31 = .ok (.iconst 0, 1) := by decide +kernel
theorem d2_32 : decode prog_15_method_3_code 32 = .ok (.ireturn, 1) := by decide +kernel
def f2_1 (x0 : Int32) (y0 : Int32) : Int32 := nar .boolean (if x0 = y0 then (0 : Int32) else (if x0 < y0 then (1 : Int32) else (0 : Int32)))
theorem ef_2_1 (m : MethodId) (x0 : Addr) (x1 : Addr) : entryFrame m #[(.ref x0), (.ref x1)] 3 = mkF m 0 #[.val (.ref x0), .val (.ref x1), .unset] [] := by first | (simp [entryFrame, mkF, argsToLocals, Value.category]; done) | rfl
def Q2_1 (Z : State) (a0 : Addr) (a1 : Addr) (x0 : Int32) (y0 : Int32) (h0 : Heap) (n0 : Nat) (v : Option Value) (h : Heap) (L : List Loc) : Prop := v = some (.int (f2_1 x0 y0)) ∧ Fr n0 L ∧ h = h0
set_option maxRecDepth 65536 in
set_option maxHeartbeats 40000000 in
theorem rm2_1 (l : Launch) (Z : State) (aZ : Array Value) (hw : ∀ d ∈ tables_1, d.before aZ Z = true) (ws : List Jvm.Cond) (a0 : Addr) (a1 : Addr) (x0 : Int32) (y0 : Int32) (h0 : Heap) (n0 : Nat) (Z0 : n0 ≤ h0.size) (A0 : OArr Z h0 a0 .int (1 : Int32) [(.int x0)] (.int (0 : Int32))) (A1 : OArr Z h0 a1 .int (1 : Int32) [(.int y0)] (.int (0 : Int32))) :
    MetFree l (⟨"com/example/assentor/assentor/check/Odometer", "before", "([I[I)Z"⟩ : MethodName) (head1 (Jvm.Cond.code (⟨"com/example/assentor/assentor/check/Odometer", "before", "([I[I)Z"⟩ : MethodName) prog_15_method_3_code 3 (some .boolean) :: ws) ({ frames := 0, cells := 0, slots := 0, locals := 0 } : Room)) (fun a U => a = #[(.ref a0), (.ref a1)] ∧ Z.Warmed39 U.vm ∧ U.heap = h0) (fun _ _ _ _ _ => True) (fun _ U o U' => ∃ v L, o = .returned v ∧ Q2_1 Z a0 a1 x0 y0 h0 n0 v U'.heap L ∧ FrameEnd U o U' L ({ frames := 0, cells := 0, slots := 0, locals := 0 } : Room).cells ({ frames := 0, cells := 0, slots := 0, locals := 0 } : Room).slots) := by
  refine MetFree.of_bodySF (plainFor_of_name pn_com_example_assentor_assentor_check_Odometer) hisR ?_
  intro p e s m args below meth c s₁ Bd hml0 hP hK
  obtain ⟨rfl, hZ, hh⟩ := hP
  have hx := Bd.exec
  have hby := Bd.bytes
  have hlk : meth.locks = false := BodyLoose.notSynchronized Bd
  have hml : c.maxLocals = 3 := hml0
  have hown : s.vm.findClass "com/example/assentor/assentor/check/Odometer" = some m.cls := findClass_of_methodNamed Bd.named
  have hnm := (name_of_methodNamed Bd.named Bd.method).1
  have X0 : Stand p l e ({ frames := 0, cells := 0, slots := 0, locals := 0 } : Room) s m #[(.ref a0), (.ref a1)] below meth c s₁ [] 0 0 := Stand.of_body Bd
  have e0 : s₁.heap = h0 := by rw [← hh, Bd.state]; rfl
  have N0 := Fr.nil n0
  show OEnd p e below s s₁ (entryFrame m #[(.ref a0), (.ref a1)] 3) (Q2_1 Z a0 a1 x0 y0 h0 n0) ({ frames := 0, cells := 0, slots := 0, locals := 0 } : Room).cells ({ frames := 0, cells := 0, slots := 0, locals := 0 } : Room).slots
  refine OEnd.go (g' := (mkF m 0 #[.val (.ref a0), .val (.ref a1), .unset] [])) (fun _ k => castTop (ef_2_1 m a0 a1) k) ?_
  refine OEnd.go (T' := s₁) (g' := (mkF m 1 #[.val (.ref a0), .val (.ref a1), .unset] [(.ref a0)])) (fun t k => ?_) ?_
  · show Steps p.tables e below (s₁.setTop (mkF m 0 #[.val (.ref a0), .val (.ref a1), .unset] [])) t
    refine XS.aloadN X0.here hx rfl (hb hby d2_0) rfl rfl ?_
    show Steps p.tables e below (s₁.setTop (mkF m 1 #[.val (.ref a0), .val (.ref a1), .unset] [(.ref a0)])) t
    exact k
  obtain ⟨kc1, cl1, Ar1, q1, S1, M1, H1, G1⟩ := id A0
  refine OEnd.go (T' := s₁) (g' := (mkF m 2 #[.val (.ref a0), .val (.ref a1), .unset] [(.int (1 : Int32))])) (fun t k => ?_) ?_
  · refine X0.arraylength hx (by rw [e0]; exact Ar1.1) (State.isArrayOf_alike hZ.alike Ar1.2.1) (g := (mkF m 1 #[.val (.ref a0), .val (.ref a1), .unset] [(.ref a0)])) rfl rfl (hb hby d2_1) _ ?_
    rw [len_of S1 M1]
    exact k
  refine OEnd.go (T' := s₁) (g' := (mkF m 11 #[.val (.ref a0), .val (.ref a1), .val (.int (0 : Int32))] [(.int (0 : Int32)), (.ref a0)])) (fun t k => ?_) ?_
  · show Steps p.tables e below (s₁.setTop (mkF m 2 #[.val (.ref a0), .val (.ref a1), .unset] [(.int (1 : Int32))])) t
    refine XS.iconst X0.here hx rfl (hb hby d2_2) ?_
    show Steps p.tables e below (s₁.setTop (mkF m 3 #[.val (.ref a0), .val (.ref a1), .unset] [(.int (1 : Int32)), (.int (1 : Int32))])) t
    refine XS.isub X0.here hx rfl (hb hby d2_3) rfl ?_
    show Steps p.tables e below (s₁.setTop (mkF m 4 #[.val (.ref a0), .val (.ref a1), .unset] [(.int (0 : Int32))])) t
    refine XS.istoreN X0.here hx rfl (hb hby d2_4) rfl (l' := #[.val (.ref a0), .val (.ref a1), .val (.int (0 : Int32))]) rfl ?_
    show Steps p.tables e below (s₁.setTop (mkF m 5 #[.val (.ref a0), .val (.ref a1), .val (.int (0 : Int32))] [])) t
    refine XS.iloadN X0.here hx rfl (hb hby d2_5) rfl ?_
    show Steps p.tables e below (s₁.setTop (mkF m 6 #[.val (.ref a0), .val (.ref a1), .val (.int (0 : Int32))] [(.int (0 : Int32))])) t
    refine XS.ifNo X0.here hx rfl (hb hby d2_6) rfl ((if0 _ _).trans (flt ((by decide))).1) ?_
    show Steps p.tables e below (s₁.setTop (mkF m 9 #[.val (.ref a0), .val (.ref a1), .val (.int (0 : Int32))] [])) t
    refine XS.aloadN X0.here hx rfl (hb hby d2_9) rfl rfl ?_
    show Steps p.tables e below (s₁.setTop (mkF m 10 #[.val (.ref a0), .val (.ref a1), .val (.int (0 : Int32))] [(.ref a0)])) t
    refine XS.iloadN X0.here hx rfl (hb hby d2_10) rfl ?_
    show Steps p.tables e below (s₁.setTop (mkF m 11 #[.val (.ref a0), .val (.ref a1), .val (.int (0 : Int32))] [(.int (0 : Int32)), (.ref a0)])) t
    exact k
  obtain ⟨kc2, cl2, Ar2, q2, S2, M2, H2, G2⟩ := id A0
  have hin2 : ¬ ((0 : Int32) < 0 ∨ cl2.slots.size ≤ ((0 : Int32)).toNatClampNeg) := inb_of S2 ⟨by decide, by decide⟩
  have hat2 : cl2.slots[((0 : Int32)).toNatClampNeg]? = some (.int x0) := Has.at H2 hin2 rfl
  refine OEnd.go (T' := s₁) (g' := (mkF m 12 #[.val (.ref a0), .val (.ref a1), .val (.int (0 : Int32))] [(.int x0)])) (fun t k => ?_) ?_
  · refine X0.iaload hx (j := (0 : Int32)) (v := (.int x0)) (by rw [e0]; exact Ar2.1) (State.isArrayOf_alike hZ.alike Ar2.2.1) Ar2.2.2 hin2 hat2 (g := (mkF m 11 #[.val (.ref a0), .val (.ref a1), .val (.int (0 : Int32))] [(.int (0 : Int32)), (.ref a0)])) rfl rfl (hb hby d2_11) _ ?_
    exact k
  refine OEnd.go (T' := s₁) (g' := (mkF m 14 #[.val (.ref a0), .val (.ref a1), .val (.int (0 : Int32))] [(.int (0 : Int32)), (.ref a1), (.int x0)])) (fun t k => ?_) ?_
  · show Steps p.tables e below (s₁.setTop (mkF m 12 #[.val (.ref a0), .val (.ref a1), .val (.int (0 : Int32))] [(.int x0)])) t
    refine XS.aloadN X0.here hx rfl (hb hby d2_12) rfl rfl ?_
    show Steps p.tables e below (s₁.setTop (mkF m 13 #[.val (.ref a0), .val (.ref a1), .val (.int (0 : Int32))] [(.ref a1), (.int x0)])) t
    refine XS.iloadN X0.here hx rfl (hb hby d2_13) rfl ?_
    show Steps p.tables e below (s₁.setTop (mkF m 14 #[.val (.ref a0), .val (.ref a1), .val (.int (0 : Int32))] [(.int (0 : Int32)), (.ref a1), (.int x0)])) t
    exact k
  obtain ⟨kc3, cl3, Ar3, q3, S3, M3, H3, G3⟩ := id A1
  have hin3 : ¬ ((0 : Int32) < 0 ∨ cl3.slots.size ≤ ((0 : Int32)).toNatClampNeg) := inb_of S3 ⟨by decide, by decide⟩
  have hat3 : cl3.slots[((0 : Int32)).toNatClampNeg]? = some (.int y0) := Has.at H3 hin3 rfl
  refine OEnd.go (T' := s₁) (g' := (mkF m 15 #[.val (.ref a0), .val (.ref a1), .val (.int (0 : Int32))] [(.int y0), (.int x0)])) (fun t k => ?_) ?_
  · refine X0.iaload hx (j := (0 : Int32)) (v := (.int y0)) (by rw [e0]; exact Ar3.1) (State.isArrayOf_alike hZ.alike Ar3.2.1) Ar3.2.2 hin3 hat3 (g := (mkF m 14 #[.val (.ref a0), .val (.ref a1), .val (.int (0 : Int32))] [(.int (0 : Int32)), (.ref a1), (.int x0)])) rfl rfl (hb hby d2_14) _ ?_
    exact k
  by_cases hc4 : x0 = y0
  · skip
    refine OEnd.go (T' := s₁) (g' := (mkF m 33 #[.val (.ref a0), .val (.ref a1), .val (.int (0 : Int32))] [])) (fun t k => ?_) ?_
    · show Steps p.tables e below (s₁.setTop (mkF m 15 #[.val (.ref a0), .val (.ref a1), .val (.int (0 : Int32))] [(.int y0), (.int x0)])) t
      refine XS.icmpYes X0.here hx rfl (pc0 := 15) (pc' := 33) rfl (hb hby d2_15) rfl (teq (hc4)).1 (by decide) (by decide) ?_
      show Steps p.tables e below (s₁.setTop (mkF m 33 #[.val (.ref a0), .val (.ref a1), .val (.int (0 : Int32))] [])) t
      exact k
    refine OEnd.go (T' := s₁) (g' := (mkF m 40 #[.val (.ref a0), .val (.ref a1), .val (.int (-1 : Int32))] [(.int (0 : Int32))])) (fun t k => ?_) ?_
    · show Steps p.tables e below (s₁.setTop (mkF m 33 #[.val (.ref a0), .val (.ref a1), .val (.int (0 : Int32))] [])) t
      refine XS.iinc X0.here hx rfl (hb hby d2_33) rfl (l' := #[.val (.ref a0), .val (.ref a1), .val (.int (-1 : Int32))]) rfl ?_
      show Steps p.tables e below (s₁.setTop (mkF m 36 #[.val (.ref a0), .val (.ref a1), .val (.int (-1 : Int32))] [])) t
      refine XS.goto X0.here hx rfl (pc0 := 36) (pc' := 5) rfl (hb hby d2_36) (by decide) (by decide) ?_
      show Steps p.tables e below (s₁.setTop (mkF m 5 #[.val (.ref a0), .val (.ref a1), .val (.int (-1 : Int32))] [])) t
      refine XS.iloadN X0.here hx rfl (hb hby d2_5) rfl ?_
      show Steps p.tables e below (s₁.setTop (mkF m 6 #[.val (.ref a0), .val (.ref a1), .val (.int (-1 : Int32))] [(.int (-1 : Int32))])) t
      refine XS.ifYes X0.here hx rfl (pc0 := 6) (pc' := 39) rfl (hb hby d2_6) rfl ((if0 _ _).trans (tlt ((by decide))).1) (by decide) (by decide) ?_
      show Steps p.tables e below (s₁.setTop (mkF m 39 #[.val (.ref a0), .val (.ref a1), .val (.int (-1 : Int32))] [])) t
      refine XS.iconst X0.here hx rfl (hb hby d2_39) ?_
      show Steps p.tables e below (s₁.setTop (mkF m 40 #[.val (.ref a0), .val (.ref a1), .val (.int (-1 : Int32))] [(.int (0 : Int32))])) t
      exact k
    exact OEnd.nar X0 hx (t := .boolean) Bd.returns (by simp) hlk (hb hby d2_40) ⟨(congrArg (fun z => some (Value.int (nar .boolean z))) (own_symm (if_pos hc4))), N0, e0⟩ (by decide) (by decide)
  · skip
    refine OEnd.go (T' := s₁) (g' := (mkF m 18 #[.val (.ref a0), .val (.ref a1), .val (.int (0 : Int32))] [])) (fun t k => ?_) ?_
    · show Steps p.tables e below (s₁.setTop (mkF m 15 #[.val (.ref a0), .val (.ref a1), .val (.int (0 : Int32))] [(.int y0), (.int x0)])) t
      refine XS.icmpNo X0.here hx rfl (hb hby d2_15) rfl (feq (hc4)).1 ?_
      show Steps p.tables e below (s₁.setTop (mkF m 18 #[.val (.ref a0), .val (.ref a1), .val (.int (0 : Int32))] [])) t
      exact k
    refine OEnd.go (T' := s₁) (g' := (mkF m 20 #[.val (.ref a0), .val (.ref a1), .val (.int (0 : Int32))] [(.int (0 : Int32)), (.ref a0)])) (fun t k => ?_) ?_
    · show Steps p.tables e below (s₁.setTop (mkF m 18 #[.val (.ref a0), .val (.ref a1), .val (.int (0 : Int32))] [])) t
      refine XS.aloadN X0.here hx rfl (hb hby d2_18) rfl rfl ?_
      show Steps p.tables e below (s₁.setTop (mkF m 19 #[.val (.ref a0), .val (.ref a1), .val (.int (0 : Int32))] [(.ref a0)])) t
      refine XS.iloadN X0.here hx rfl (hb hby d2_19) rfl ?_
      show Steps p.tables e below (s₁.setTop (mkF m 20 #[.val (.ref a0), .val (.ref a1), .val (.int (0 : Int32))] [(.int (0 : Int32)), (.ref a0)])) t
      exact k
    obtain ⟨kc5, cl5, Ar5, q5, S5, M5, H5, G5⟩ := id A0
    have hin5 : ¬ ((0 : Int32) < 0 ∨ cl5.slots.size ≤ ((0 : Int32)).toNatClampNeg) := inb_of S5 ⟨by decide, by decide⟩
    have hat5 : cl5.slots[((0 : Int32)).toNatClampNeg]? = some (.int x0) := Has.at H5 hin5 rfl
    refine OEnd.go (T' := s₁) (g' := (mkF m 21 #[.val (.ref a0), .val (.ref a1), .val (.int (0 : Int32))] [(.int x0)])) (fun t k => ?_) ?_
    · refine X0.iaload hx (j := (0 : Int32)) (v := (.int x0)) (by rw [e0]; exact Ar5.1) (State.isArrayOf_alike hZ.alike Ar5.2.1) Ar5.2.2 hin5 hat5 (g := (mkF m 20 #[.val (.ref a0), .val (.ref a1), .val (.int (0 : Int32))] [(.int (0 : Int32)), (.ref a0)])) rfl rfl (hb hby d2_20) _ ?_
      exact k
    refine OEnd.go (T' := s₁) (g' := (mkF m 23 #[.val (.ref a0), .val (.ref a1), .val (.int (0 : Int32))] [(.int (0 : Int32)), (.ref a1), (.int x0)])) (fun t k => ?_) ?_
    · show Steps p.tables e below (s₁.setTop (mkF m 21 #[.val (.ref a0), .val (.ref a1), .val (.int (0 : Int32))] [(.int x0)])) t
      refine XS.aloadN X0.here hx rfl (hb hby d2_21) rfl rfl ?_
      show Steps p.tables e below (s₁.setTop (mkF m 22 #[.val (.ref a0), .val (.ref a1), .val (.int (0 : Int32))] [(.ref a1), (.int x0)])) t
      refine XS.iloadN X0.here hx rfl (hb hby d2_22) rfl ?_
      show Steps p.tables e below (s₁.setTop (mkF m 23 #[.val (.ref a0), .val (.ref a1), .val (.int (0 : Int32))] [(.int (0 : Int32)), (.ref a1), (.int x0)])) t
      exact k
    obtain ⟨kc6, cl6, Ar6, q6, S6, M6, H6, G6⟩ := id A1
    have hin6 : ¬ ((0 : Int32) < 0 ∨ cl6.slots.size ≤ ((0 : Int32)).toNatClampNeg) := inb_of S6 ⟨by decide, by decide⟩
    have hat6 : cl6.slots[((0 : Int32)).toNatClampNeg]? = some (.int y0) := Has.at H6 hin6 rfl
    refine OEnd.go (T' := s₁) (g' := (mkF m 24 #[.val (.ref a0), .val (.ref a1), .val (.int (0 : Int32))] [(.int y0), (.int x0)])) (fun t k => ?_) ?_
    · refine X0.iaload hx (j := (0 : Int32)) (v := (.int y0)) (by rw [e0]; exact Ar6.1) (State.isArrayOf_alike hZ.alike Ar6.2.1) Ar6.2.2 hin6 hat6 (g := (mkF m 23 #[.val (.ref a0), .val (.ref a1), .val (.int (0 : Int32))] [(.int (0 : Int32)), (.ref a1), (.int x0)])) rfl rfl (hb hby d2_23) _ ?_
      exact k
    refine OEnd.go (T' := s₁) (g' := (mkF m 32 #[.val (.ref a0), .val (.ref a1), .val (.int (0 : Int32))] [(.int (if x0 < y0 then (1 : Int32) else (0 : Int32)))])) (fun t k => ?_) ?_
    · show Steps p.tables e below (s₁.setTop (mkF m 24 #[.val (.ref a0), .val (.ref a1), .val (.int (0 : Int32))] [(.int y0), (.int x0)])) t
      by_cases hc7 : x0 < y0
      · skip
        refine XS.icmpNo X0.here hx rfl (hb hby d2_24) rfl (tlt (hc7)).2.1 ?_
        show Steps p.tables e below (s₁.setTop (mkF m 27 #[.val (.ref a0), .val (.ref a1), .val (.int (0 : Int32))] [])) t
        refine SGo.go (T' := s₁) (g' := (mkF m 32 #[.val (.ref a0), .val (.ref a1), .val (.int (0 : Int32))] [(.int (1 : Int32))])) (fun t k => ?_) ?_
        · show Steps p.tables e below (s₁.setTop (mkF m 27 #[.val (.ref a0), .val (.ref a1), .val (.int (0 : Int32))] [])) t
          refine XS.iconst X0.here hx rfl (hb hby d2_27) ?_
          show Steps p.tables e below (s₁.setTop (mkF m 28 #[.val (.ref a0), .val (.ref a1), .val (.int (0 : Int32))] [(.int (1 : Int32))])) t
          refine XS.goto X0.here hx rfl (pc0 := 28) (pc' := 32) rfl (hb hby d2_28) (by decide) (by decide) ?_
          show Steps p.tables e below (s₁.setTop (mkF m 32 #[.val (.ref a0), .val (.ref a1), .val (.int (0 : Int32))] [(.int (1 : Int32))])) t
          exact k
        exact (own_k (f := fun (z : Int32) => mkF m 32 #[.val (.ref a0), .val (.ref a1), .val (.int (0 : Int32))] [(.int z)]) (if_pos hc7) k)
      · skip
        refine XS.icmpYes X0.here hx rfl (pc0 := 24) (pc' := 31) rfl (hb hby d2_24) rfl (flt (hc7)).2.1 (by decide) (by decide) ?_
        show Steps p.tables e below (s₁.setTop (mkF m 31 #[.val (.ref a0), .val (.ref a1), .val (.int (0 : Int32))] [])) t
        refine SGo.go (T' := s₁) (g' := (mkF m 32 #[.val (.ref a0), .val (.ref a1), .val (.int (0 : Int32))] [(.int (0 : Int32))])) (fun t k => ?_) ?_
        · show Steps p.tables e below (s₁.setTop (mkF m 31 #[.val (.ref a0), .val (.ref a1), .val (.int (0 : Int32))] [])) t
          refine XS.iconst X0.here hx rfl (hb hby d2_31) ?_
          show Steps p.tables e below (s₁.setTop (mkF m 32 #[.val (.ref a0), .val (.ref a1), .val (.int (0 : Int32))] [(.int (0 : Int32))])) t
          exact k
        exact (own_k (f := fun (z : Int32) => mkF m 32 #[.val (.ref a0), .val (.ref a1), .val (.int (0 : Int32))] [(.int z)]) (if_neg hc7) k)
    exact OEnd.nar X0 hx (t := .boolean) Bd.returns (by simp) hlk (hb hby d2_32) ⟨(congrArg (fun z => some (Value.int (nar .boolean z))) (own_symm (if_neg hc4))), N0, e0⟩ (by decide) (by decide)
def f2_2 (x0 : Int32) (x1 : Int32) (y0 : Int32) (y1 : Int32) : Int32 := nar .boolean (if x1 = y1 then (if x0 = y0 then (0 : Int32) else (if x0 < y0 then (1 : Int32) else (0 : Int32))) else (if x1 < y1 then (1 : Int32) else (0 : Int32)))
theorem ef_2_2 (m : MethodId) (x0 : Addr) (x1 : Addr) : entryFrame m #[(.ref x0), (.ref x1)] 3 = mkF m 0 #[.val (.ref x0), .val (.ref x1), .unset] [] := by first | (simp [entryFrame, mkF, argsToLocals, Value.category]; done) | rfl
def Q2_2 (Z : State) (a0 : Addr) (a1 : Addr) (x0 : Int32) (x1 : Int32) (y0 : Int32) (y1 : Int32) (h0 : Heap) (n0 : Nat) (v : Option Value) (h : Heap) (L : List Loc) : Prop := v = some (.int (f2_2 x0 x1 y0 y1)) ∧ Fr n0 L ∧ h = h0
set_option maxRecDepth 65536 in
set_option maxHeartbeats 40000000 in
theorem rm2_2 (l : Launch) (Z : State) (aZ : Array Value) (hw : ∀ d ∈ tables_1, d.before aZ Z = true) (ws : List Jvm.Cond) (a0 : Addr) (a1 : Addr) (x0 : Int32) (x1 : Int32) (y0 : Int32) (y1 : Int32) (h0 : Heap) (n0 : Nat) (Z0 : n0 ≤ h0.size) (A0 : OArr Z h0 a0 .int (2 : Int32) [(.int x0), (.int x1)] (.int (0 : Int32))) (A1 : OArr Z h0 a1 .int (2 : Int32) [(.int y0), (.int y1)] (.int (0 : Int32))) :
    MetFree l (⟨"com/example/assentor/assentor/check/Odometer", "before", "([I[I)Z"⟩ : MethodName) (head1 (Jvm.Cond.code (⟨"com/example/assentor/assentor/check/Odometer", "before", "([I[I)Z"⟩ : MethodName) prog_15_method_3_code 3 (some .boolean) :: ws) ({ frames := 0, cells := 0, slots := 0, locals := 0 } : Room)) (fun a U => a = #[(.ref a0), (.ref a1)] ∧ Z.Warmed39 U.vm ∧ U.heap = h0) (fun _ _ _ _ _ => True) (fun _ U o U' => ∃ v L, o = .returned v ∧ Q2_2 Z a0 a1 x0 x1 y0 y1 h0 n0 v U'.heap L ∧ FrameEnd U o U' L ({ frames := 0, cells := 0, slots := 0, locals := 0 } : Room).cells ({ frames := 0, cells := 0, slots := 0, locals := 0 } : Room).slots) := by
  refine MetFree.of_bodySF (plainFor_of_name pn_com_example_assentor_assentor_check_Odometer) hisR ?_
  intro p e s m args below meth c s₁ Bd hml0 hP hK
  obtain ⟨rfl, hZ, hh⟩ := hP
  have hx := Bd.exec
  have hby := Bd.bytes
  have hlk : meth.locks = false := BodyLoose.notSynchronized Bd
  have hml : c.maxLocals = 3 := hml0
  have hown : s.vm.findClass "com/example/assentor/assentor/check/Odometer" = some m.cls := findClass_of_methodNamed Bd.named
  have hnm := (name_of_methodNamed Bd.named Bd.method).1
  have X0 : Stand p l e ({ frames := 0, cells := 0, slots := 0, locals := 0 } : Room) s m #[(.ref a0), (.ref a1)] below meth c s₁ [] 0 0 := Stand.of_body Bd
  have e0 : s₁.heap = h0 := by rw [← hh, Bd.state]; rfl
  have N0 := Fr.nil n0
  show OEnd p e below s s₁ (entryFrame m #[(.ref a0), (.ref a1)] 3) (Q2_2 Z a0 a1 x0 x1 y0 y1 h0 n0) ({ frames := 0, cells := 0, slots := 0, locals := 0 } : Room).cells ({ frames := 0, cells := 0, slots := 0, locals := 0 } : Room).slots
  refine OEnd.go (g' := (mkF m 0 #[.val (.ref a0), .val (.ref a1), .unset] [])) (fun _ k => castTop (ef_2_2 m a0 a1) k) ?_
  refine OEnd.go (T' := s₁) (g' := (mkF m 1 #[.val (.ref a0), .val (.ref a1), .unset] [(.ref a0)])) (fun t k => ?_) ?_
  · show Steps p.tables e below (s₁.setTop (mkF m 0 #[.val (.ref a0), .val (.ref a1), .unset] [])) t
    refine XS.aloadN X0.here hx rfl (hb hby d2_0) rfl rfl ?_
    show Steps p.tables e below (s₁.setTop (mkF m 1 #[.val (.ref a0), .val (.ref a1), .unset] [(.ref a0)])) t
    exact k
  obtain ⟨kc1, cl1, Ar1, q1, S1, M1, H1, G1⟩ := id A0
  refine OEnd.go (T' := s₁) (g' := (mkF m 2 #[.val (.ref a0), .val (.ref a1), .unset] [(.int (2 : Int32))])) (fun t k => ?_) ?_
  · refine X0.arraylength hx (by rw [e0]; exact Ar1.1) (State.isArrayOf_alike hZ.alike Ar1.2.1) (g := (mkF m 1 #[.val (.ref a0), .val (.ref a1), .unset] [(.ref a0)])) rfl rfl (hb hby d2_1) _ ?_
    rw [len_of S1 M1]
    exact k
  refine OEnd.go (T' := s₁) (g' := (mkF m 11 #[.val (.ref a0), .val (.ref a1), .val (.int (1 : Int32))] [(.int (1 : Int32)), (.ref a0)])) (fun t k => ?_) ?_
  · show Steps p.tables e below (s₁.setTop (mkF m 2 #[.val (.ref a0), .val (.ref a1), .unset] [(.int (2 : Int32))])) t
    refine XS.iconst X0.here hx rfl (hb hby d2_2) ?_
    show Steps p.tables e below (s₁.setTop (mkF m 3 #[.val (.ref a0), .val (.ref a1), .unset] [(.int (1 : Int32)), (.int (2 : Int32))])) t
    refine XS.isub X0.here hx rfl (hb hby d2_3) rfl ?_
    show Steps p.tables e below (s₁.setTop (mkF m 4 #[.val (.ref a0), .val (.ref a1), .unset] [(.int (1 : Int32))])) t
    refine XS.istoreN X0.here hx rfl (hb hby d2_4) rfl (l' := #[.val (.ref a0), .val (.ref a1), .val (.int (1 : Int32))]) rfl ?_
    show Steps p.tables e below (s₁.setTop (mkF m 5 #[.val (.ref a0), .val (.ref a1), .val (.int (1 : Int32))] [])) t
    refine XS.iloadN X0.here hx rfl (hb hby d2_5) rfl ?_
    show Steps p.tables e below (s₁.setTop (mkF m 6 #[.val (.ref a0), .val (.ref a1), .val (.int (1 : Int32))] [(.int (1 : Int32))])) t
    refine XS.ifNo X0.here hx rfl (hb hby d2_6) rfl ((if0 _ _).trans (flt ((by decide))).1) ?_
    show Steps p.tables e below (s₁.setTop (mkF m 9 #[.val (.ref a0), .val (.ref a1), .val (.int (1 : Int32))] [])) t
    refine XS.aloadN X0.here hx rfl (hb hby d2_9) rfl rfl ?_
    show Steps p.tables e below (s₁.setTop (mkF m 10 #[.val (.ref a0), .val (.ref a1), .val (.int (1 : Int32))] [(.ref a0)])) t
    refine XS.iloadN X0.here hx rfl (hb hby d2_10) rfl ?_
    show Steps p.tables e below (s₁.setTop (mkF m 11 #[.val (.ref a0), .val (.ref a1), .val (.int (1 : Int32))] [(.int (1 : Int32)), (.ref a0)])) t
    exact k
  obtain ⟨kc2, cl2, Ar2, q2, S2, M2, H2, G2⟩ := id A0
  have hin2 : ¬ ((1 : Int32) < 0 ∨ cl2.slots.size ≤ ((1 : Int32)).toNatClampNeg) := inb_of S2 ⟨by decide, by decide⟩
  have hat2 : cl2.slots[((1 : Int32)).toNatClampNeg]? = some (.int x1) := Has.at H2 hin2 rfl
  refine OEnd.go (T' := s₁) (g' := (mkF m 12 #[.val (.ref a0), .val (.ref a1), .val (.int (1 : Int32))] [(.int x1)])) (fun t k => ?_) ?_
  · refine X0.iaload hx (j := (1 : Int32)) (v := (.int x1)) (by rw [e0]; exact Ar2.1) (State.isArrayOf_alike hZ.alike Ar2.2.1) Ar2.2.2 hin2 hat2 (g := (mkF m 11 #[.val (.ref a0), .val (.ref a1), .val (.int (1 : Int32))] [(.int (1 : Int32)), (.ref a0)])) rfl rfl (hb hby d2_11) _ ?_
    exact k
  refine OEnd.go (T' := s₁) (g' := (mkF m 14 #[.val (.ref a0), .val (.ref a1), .val (.int (1 : Int32))] [(.int (1 : Int32)), (.ref a1), (.int x1)])) (fun t k => ?_) ?_
  · show Steps p.tables e below (s₁.setTop (mkF m 12 #[.val (.ref a0), .val (.ref a1), .val (.int (1 : Int32))] [(.int x1)])) t
    refine XS.aloadN X0.here hx rfl (hb hby d2_12) rfl rfl ?_
    show Steps p.tables e below (s₁.setTop (mkF m 13 #[.val (.ref a0), .val (.ref a1), .val (.int (1 : Int32))] [(.ref a1), (.int x1)])) t
    refine XS.iloadN X0.here hx rfl (hb hby d2_13) rfl ?_
    show Steps p.tables e below (s₁.setTop (mkF m 14 #[.val (.ref a0), .val (.ref a1), .val (.int (1 : Int32))] [(.int (1 : Int32)), (.ref a1), (.int x1)])) t
    exact k
  obtain ⟨kc3, cl3, Ar3, q3, S3, M3, H3, G3⟩ := id A1
  have hin3 : ¬ ((1 : Int32) < 0 ∨ cl3.slots.size ≤ ((1 : Int32)).toNatClampNeg) := inb_of S3 ⟨by decide, by decide⟩
  have hat3 : cl3.slots[((1 : Int32)).toNatClampNeg]? = some (.int y1) := Has.at H3 hin3 rfl
  refine OEnd.go (T' := s₁) (g' := (mkF m 15 #[.val (.ref a0), .val (.ref a1), .val (.int (1 : Int32))] [(.int y1), (.int x1)])) (fun t k => ?_) ?_
  · refine X0.iaload hx (j := (1 : Int32)) (v := (.int y1)) (by rw [e0]; exact Ar3.1) (State.isArrayOf_alike hZ.alike Ar3.2.1) Ar3.2.2 hin3 hat3 (g := (mkF m 14 #[.val (.ref a0), .val (.ref a1), .val (.int (1 : Int32))] [(.int (1 : Int32)), (.ref a1), (.int x1)])) rfl rfl (hb hby d2_14) _ ?_
    exact k
  by_cases hc4 : x1 = y1
  · skip
    refine OEnd.go (T' := s₁) (g' := (mkF m 33 #[.val (.ref a0), .val (.ref a1), .val (.int (1 : Int32))] [])) (fun t k => ?_) ?_
    · show Steps p.tables e below (s₁.setTop (mkF m 15 #[.val (.ref a0), .val (.ref a1), .val (.int (1 : Int32))] [(.int y1), (.int x1)])) t
      refine XS.icmpYes X0.here hx rfl (pc0 := 15) (pc' := 33) rfl (hb hby d2_15) rfl (teq (hc4)).1 (by decide) (by decide) ?_
      show Steps p.tables e below (s₁.setTop (mkF m 33 #[.val (.ref a0), .val (.ref a1), .val (.int (1 : Int32))] [])) t
      exact k
    refine OEnd.go (T' := s₁) (g' := (mkF m 11 #[.val (.ref a0), .val (.ref a1), .val (.int (0 : Int32))] [(.int (0 : Int32)), (.ref a0)])) (fun t k => ?_) ?_
    · show Steps p.tables e below (s₁.setTop (mkF m 33 #[.val (.ref a0), .val (.ref a1), .val (.int (1 : Int32))] [])) t
      refine XS.iinc X0.here hx rfl (hb hby d2_33) rfl (l' := #[.val (.ref a0), .val (.ref a1), .val (.int (0 : Int32))]) rfl ?_
      show Steps p.tables e below (s₁.setTop (mkF m 36 #[.val (.ref a0), .val (.ref a1), .val (.int (0 : Int32))] [])) t
      refine XS.goto X0.here hx rfl (pc0 := 36) (pc' := 5) rfl (hb hby d2_36) (by decide) (by decide) ?_
      show Steps p.tables e below (s₁.setTop (mkF m 5 #[.val (.ref a0), .val (.ref a1), .val (.int (0 : Int32))] [])) t
      refine XS.iloadN X0.here hx rfl (hb hby d2_5) rfl ?_
      show Steps p.tables e below (s₁.setTop (mkF m 6 #[.val (.ref a0), .val (.ref a1), .val (.int (0 : Int32))] [(.int (0 : Int32))])) t
      refine XS.ifNo X0.here hx rfl (hb hby d2_6) rfl ((if0 _ _).trans (flt ((by decide))).1) ?_
      show Steps p.tables e below (s₁.setTop (mkF m 9 #[.val (.ref a0), .val (.ref a1), .val (.int (0 : Int32))] [])) t
      refine XS.aloadN X0.here hx rfl (hb hby d2_9) rfl rfl ?_
      show Steps p.tables e below (s₁.setTop (mkF m 10 #[.val (.ref a0), .val (.ref a1), .val (.int (0 : Int32))] [(.ref a0)])) t
      refine XS.iloadN X0.here hx rfl (hb hby d2_10) rfl ?_
      show Steps p.tables e below (s₁.setTop (mkF m 11 #[.val (.ref a0), .val (.ref a1), .val (.int (0 : Int32))] [(.int (0 : Int32)), (.ref a0)])) t
      exact k
    obtain ⟨kc5, cl5, Ar5, q5, S5, M5, H5, G5⟩ := id A0
    have hin5 : ¬ ((0 : Int32) < 0 ∨ cl5.slots.size ≤ ((0 : Int32)).toNatClampNeg) := inb_of S5 ⟨by decide, by decide⟩
    have hat5 : cl5.slots[((0 : Int32)).toNatClampNeg]? = some (.int x0) := Has.at H5 hin5 rfl
    refine OEnd.go (T' := s₁) (g' := (mkF m 12 #[.val (.ref a0), .val (.ref a1), .val (.int (0 : Int32))] [(.int x0)])) (fun t k => ?_) ?_
    · refine X0.iaload hx (j := (0 : Int32)) (v := (.int x0)) (by rw [e0]; exact Ar5.1) (State.isArrayOf_alike hZ.alike Ar5.2.1) Ar5.2.2 hin5 hat5 (g := (mkF m 11 #[.val (.ref a0), .val (.ref a1), .val (.int (0 : Int32))] [(.int (0 : Int32)), (.ref a0)])) rfl rfl (hb hby d2_11) _ ?_
      exact k
    refine OEnd.go (T' := s₁) (g' := (mkF m 14 #[.val (.ref a0), .val (.ref a1), .val (.int (0 : Int32))] [(.int (0 : Int32)), (.ref a1), (.int x0)])) (fun t k => ?_) ?_
    · show Steps p.tables e below (s₁.setTop (mkF m 12 #[.val (.ref a0), .val (.ref a1), .val (.int (0 : Int32))] [(.int x0)])) t
      refine XS.aloadN X0.here hx rfl (hb hby d2_12) rfl rfl ?_
      show Steps p.tables e below (s₁.setTop (mkF m 13 #[.val (.ref a0), .val (.ref a1), .val (.int (0 : Int32))] [(.ref a1), (.int x0)])) t
      refine XS.iloadN X0.here hx rfl (hb hby d2_13) rfl ?_
      show Steps p.tables e below (s₁.setTop (mkF m 14 #[.val (.ref a0), .val (.ref a1), .val (.int (0 : Int32))] [(.int (0 : Int32)), (.ref a1), (.int x0)])) t
      exact k
    obtain ⟨kc6, cl6, Ar6, q6, S6, M6, H6, G6⟩ := id A1
    have hin6 : ¬ ((0 : Int32) < 0 ∨ cl6.slots.size ≤ ((0 : Int32)).toNatClampNeg) := inb_of S6 ⟨by decide, by decide⟩
    have hat6 : cl6.slots[((0 : Int32)).toNatClampNeg]? = some (.int y0) := Has.at H6 hin6 rfl
    refine OEnd.go (T' := s₁) (g' := (mkF m 15 #[.val (.ref a0), .val (.ref a1), .val (.int (0 : Int32))] [(.int y0), (.int x0)])) (fun t k => ?_) ?_
    · refine X0.iaload hx (j := (0 : Int32)) (v := (.int y0)) (by rw [e0]; exact Ar6.1) (State.isArrayOf_alike hZ.alike Ar6.2.1) Ar6.2.2 hin6 hat6 (g := (mkF m 14 #[.val (.ref a0), .val (.ref a1), .val (.int (0 : Int32))] [(.int (0 : Int32)), (.ref a1), (.int x0)])) rfl rfl (hb hby d2_14) _ ?_
      exact k
    by_cases hc7 : x0 = y0
    · skip
      refine OEnd.go (T' := s₁) (g' := (mkF m 33 #[.val (.ref a0), .val (.ref a1), .val (.int (0 : Int32))] [])) (fun t k => ?_) ?_
      · show Steps p.tables e below (s₁.setTop (mkF m 15 #[.val (.ref a0), .val (.ref a1), .val (.int (0 : Int32))] [(.int y0), (.int x0)])) t
        refine XS.icmpYes X0.here hx rfl (pc0 := 15) (pc' := 33) rfl (hb hby d2_15) rfl (teq (hc7)).1 (by decide) (by decide) ?_
        show Steps p.tables e below (s₁.setTop (mkF m 33 #[.val (.ref a0), .val (.ref a1), .val (.int (0 : Int32))] [])) t
        exact k
      refine OEnd.go (T' := s₁) (g' := (mkF m 40 #[.val (.ref a0), .val (.ref a1), .val (.int (-1 : Int32))] [(.int (0 : Int32))])) (fun t k => ?_) ?_
      · show Steps p.tables e below (s₁.setTop (mkF m 33 #[.val (.ref a0), .val (.ref a1), .val (.int (0 : Int32))] [])) t
        refine XS.iinc X0.here hx rfl (hb hby d2_33) rfl (l' := #[.val (.ref a0), .val (.ref a1), .val (.int (-1 : Int32))]) rfl ?_
        show Steps p.tables e below (s₁.setTop (mkF m 36 #[.val (.ref a0), .val (.ref a1), .val (.int (-1 : Int32))] [])) t
        refine XS.goto X0.here hx rfl (pc0 := 36) (pc' := 5) rfl (hb hby d2_36) (by decide) (by decide) ?_
        show Steps p.tables e below (s₁.setTop (mkF m 5 #[.val (.ref a0), .val (.ref a1), .val (.int (-1 : Int32))] [])) t
        refine XS.iloadN X0.here hx rfl (hb hby d2_5) rfl ?_
        show Steps p.tables e below (s₁.setTop (mkF m 6 #[.val (.ref a0), .val (.ref a1), .val (.int (-1 : Int32))] [(.int (-1 : Int32))])) t
        refine XS.ifYes X0.here hx rfl (pc0 := 6) (pc' := 39) rfl (hb hby d2_6) rfl ((if0 _ _).trans (tlt ((by decide))).1) (by decide) (by decide) ?_
        show Steps p.tables e below (s₁.setTop (mkF m 39 #[.val (.ref a0), .val (.ref a1), .val (.int (-1 : Int32))] [])) t
        refine XS.iconst X0.here hx rfl (hb hby d2_39) ?_
        show Steps p.tables e below (s₁.setTop (mkF m 40 #[.val (.ref a0), .val (.ref a1), .val (.int (-1 : Int32))] [(.int (0 : Int32))])) t
        exact k
      exact OEnd.nar X0 hx (t := .boolean) Bd.returns (by simp) hlk (hb hby d2_40) ⟨(congrArg (fun z => some (Value.int (nar .boolean z))) (own_symm ((if_pos hc4).trans (if_pos hc7)))), N0, e0⟩ (by decide) (by decide)
    · skip
      refine OEnd.go (T' := s₁) (g' := (mkF m 18 #[.val (.ref a0), .val (.ref a1), .val (.int (0 : Int32))] [])) (fun t k => ?_) ?_
      · show Steps p.tables e below (s₁.setTop (mkF m 15 #[.val (.ref a0), .val (.ref a1), .val (.int (0 : Int32))] [(.int y0), (.int x0)])) t
        refine XS.icmpNo X0.here hx rfl (hb hby d2_15) rfl (feq (hc7)).1 ?_
        show Steps p.tables e below (s₁.setTop (mkF m 18 #[.val (.ref a0), .val (.ref a1), .val (.int (0 : Int32))] [])) t
        exact k
      refine OEnd.go (T' := s₁) (g' := (mkF m 20 #[.val (.ref a0), .val (.ref a1), .val (.int (0 : Int32))] [(.int (0 : Int32)), (.ref a0)])) (fun t k => ?_) ?_
      · show Steps p.tables e below (s₁.setTop (mkF m 18 #[.val (.ref a0), .val (.ref a1), .val (.int (0 : Int32))] [])) t
        refine XS.aloadN X0.here hx rfl (hb hby d2_18) rfl rfl ?_
        show Steps p.tables e below (s₁.setTop (mkF m 19 #[.val (.ref a0), .val (.ref a1), .val (.int (0 : Int32))] [(.ref a0)])) t
        refine XS.iloadN X0.here hx rfl (hb hby d2_19) rfl ?_
        show Steps p.tables e below (s₁.setTop (mkF m 20 #[.val (.ref a0), .val (.ref a1), .val (.int (0 : Int32))] [(.int (0 : Int32)), (.ref a0)])) t
        exact k
      obtain ⟨kc8, cl8, Ar8, q8, S8, M8, H8, G8⟩ := id A0
      have hin8 : ¬ ((0 : Int32) < 0 ∨ cl8.slots.size ≤ ((0 : Int32)).toNatClampNeg) := inb_of S8 ⟨by decide, by decide⟩
      have hat8 : cl8.slots[((0 : Int32)).toNatClampNeg]? = some (.int x0) := Has.at H8 hin8 rfl
      refine OEnd.go (T' := s₁) (g' := (mkF m 21 #[.val (.ref a0), .val (.ref a1), .val (.int (0 : Int32))] [(.int x0)])) (fun t k => ?_) ?_
      · refine X0.iaload hx (j := (0 : Int32)) (v := (.int x0)) (by rw [e0]; exact Ar8.1) (State.isArrayOf_alike hZ.alike Ar8.2.1) Ar8.2.2 hin8 hat8 (g := (mkF m 20 #[.val (.ref a0), .val (.ref a1), .val (.int (0 : Int32))] [(.int (0 : Int32)), (.ref a0)])) rfl rfl (hb hby d2_20) _ ?_
        exact k
      refine OEnd.go (T' := s₁) (g' := (mkF m 23 #[.val (.ref a0), .val (.ref a1), .val (.int (0 : Int32))] [(.int (0 : Int32)), (.ref a1), (.int x0)])) (fun t k => ?_) ?_
      · show Steps p.tables e below (s₁.setTop (mkF m 21 #[.val (.ref a0), .val (.ref a1), .val (.int (0 : Int32))] [(.int x0)])) t
        refine XS.aloadN X0.here hx rfl (hb hby d2_21) rfl rfl ?_
        show Steps p.tables e below (s₁.setTop (mkF m 22 #[.val (.ref a0), .val (.ref a1), .val (.int (0 : Int32))] [(.ref a1), (.int x0)])) t
        refine XS.iloadN X0.here hx rfl (hb hby d2_22) rfl ?_
        show Steps p.tables e below (s₁.setTop (mkF m 23 #[.val (.ref a0), .val (.ref a1), .val (.int (0 : Int32))] [(.int (0 : Int32)), (.ref a1), (.int x0)])) t
        exact k
      obtain ⟨kc9, cl9, Ar9, q9, S9, M9, H9, G9⟩ := id A1
      have hin9 : ¬ ((0 : Int32) < 0 ∨ cl9.slots.size ≤ ((0 : Int32)).toNatClampNeg) := inb_of S9 ⟨by decide, by decide⟩
      have hat9 : cl9.slots[((0 : Int32)).toNatClampNeg]? = some (.int y0) := Has.at H9 hin9 rfl
      refine OEnd.go (T' := s₁) (g' := (mkF m 24 #[.val (.ref a0), .val (.ref a1), .val (.int (0 : Int32))] [(.int y0), (.int x0)])) (fun t k => ?_) ?_
      · refine X0.iaload hx (j := (0 : Int32)) (v := (.int y0)) (by rw [e0]; exact Ar9.1) (State.isArrayOf_alike hZ.alike Ar9.2.1) Ar9.2.2 hin9 hat9 (g := (mkF m 23 #[.val (.ref a0), .val (.ref a1), .val (.int (0 : Int32))] [(.int (0 : Int32)), (.ref a1), (.int x0)])) rfl rfl (hb hby d2_23) _ ?_
        exact k
      refine OEnd.go (T' := s₁) (g' := (mkF m 32 #[.val (.ref a0), .val (.ref a1), .val (.int (0 : Int32))] [(.int (if x0 < y0 then (1 : Int32) else (0 : Int32)))])) (fun t k => ?_) ?_
      · show Steps p.tables e below (s₁.setTop (mkF m 24 #[.val (.ref a0), .val (.ref a1), .val (.int (0 : Int32))] [(.int y0), (.int x0)])) t
        by_cases hc10 : x0 < y0
        · skip
          refine XS.icmpNo X0.here hx rfl (hb hby d2_24) rfl (tlt (hc10)).2.1 ?_
          show Steps p.tables e below (s₁.setTop (mkF m 27 #[.val (.ref a0), .val (.ref a1), .val (.int (0 : Int32))] [])) t
          refine SGo.go (T' := s₁) (g' := (mkF m 32 #[.val (.ref a0), .val (.ref a1), .val (.int (0 : Int32))] [(.int (1 : Int32))])) (fun t k => ?_) ?_
          · show Steps p.tables e below (s₁.setTop (mkF m 27 #[.val (.ref a0), .val (.ref a1), .val (.int (0 : Int32))] [])) t
            refine XS.iconst X0.here hx rfl (hb hby d2_27) ?_
            show Steps p.tables e below (s₁.setTop (mkF m 28 #[.val (.ref a0), .val (.ref a1), .val (.int (0 : Int32))] [(.int (1 : Int32))])) t
            refine XS.goto X0.here hx rfl (pc0 := 28) (pc' := 32) rfl (hb hby d2_28) (by decide) (by decide) ?_
            show Steps p.tables e below (s₁.setTop (mkF m 32 #[.val (.ref a0), .val (.ref a1), .val (.int (0 : Int32))] [(.int (1 : Int32))])) t
            exact k
          exact (own_k (f := fun (z : Int32) => mkF m 32 #[.val (.ref a0), .val (.ref a1), .val (.int (0 : Int32))] [(.int z)]) (if_pos hc10) k)
        · skip
          refine XS.icmpYes X0.here hx rfl (pc0 := 24) (pc' := 31) rfl (hb hby d2_24) rfl (flt (hc10)).2.1 (by decide) (by decide) ?_
          show Steps p.tables e below (s₁.setTop (mkF m 31 #[.val (.ref a0), .val (.ref a1), .val (.int (0 : Int32))] [])) t
          refine SGo.go (T' := s₁) (g' := (mkF m 32 #[.val (.ref a0), .val (.ref a1), .val (.int (0 : Int32))] [(.int (0 : Int32))])) (fun t k => ?_) ?_
          · show Steps p.tables e below (s₁.setTop (mkF m 31 #[.val (.ref a0), .val (.ref a1), .val (.int (0 : Int32))] [])) t
            refine XS.iconst X0.here hx rfl (hb hby d2_31) ?_
            show Steps p.tables e below (s₁.setTop (mkF m 32 #[.val (.ref a0), .val (.ref a1), .val (.int (0 : Int32))] [(.int (0 : Int32))])) t
            exact k
          exact (own_k (f := fun (z : Int32) => mkF m 32 #[.val (.ref a0), .val (.ref a1), .val (.int (0 : Int32))] [(.int z)]) (if_neg hc10) k)
      exact OEnd.nar X0 hx (t := .boolean) Bd.returns (by simp) hlk (hb hby d2_32) ⟨(congrArg (fun z => some (Value.int (nar .boolean z))) (own_symm ((if_pos hc4).trans (if_neg hc7)))), N0, e0⟩ (by decide) (by decide)
  · skip
    refine OEnd.go (T' := s₁) (g' := (mkF m 18 #[.val (.ref a0), .val (.ref a1), .val (.int (1 : Int32))] [])) (fun t k => ?_) ?_
    · show Steps p.tables e below (s₁.setTop (mkF m 15 #[.val (.ref a0), .val (.ref a1), .val (.int (1 : Int32))] [(.int y1), (.int x1)])) t
      refine XS.icmpNo X0.here hx rfl (hb hby d2_15) rfl (feq (hc4)).1 ?_
      show Steps p.tables e below (s₁.setTop (mkF m 18 #[.val (.ref a0), .val (.ref a1), .val (.int (1 : Int32))] [])) t
      exact k
    refine OEnd.go (T' := s₁) (g' := (mkF m 20 #[.val (.ref a0), .val (.ref a1), .val (.int (1 : Int32))] [(.int (1 : Int32)), (.ref a0)])) (fun t k => ?_) ?_
    · show Steps p.tables e below (s₁.setTop (mkF m 18 #[.val (.ref a0), .val (.ref a1), .val (.int (1 : Int32))] [])) t
      refine XS.aloadN X0.here hx rfl (hb hby d2_18) rfl rfl ?_
      show Steps p.tables e below (s₁.setTop (mkF m 19 #[.val (.ref a0), .val (.ref a1), .val (.int (1 : Int32))] [(.ref a0)])) t
      refine XS.iloadN X0.here hx rfl (hb hby d2_19) rfl ?_
      show Steps p.tables e below (s₁.setTop (mkF m 20 #[.val (.ref a0), .val (.ref a1), .val (.int (1 : Int32))] [(.int (1 : Int32)), (.ref a0)])) t
      exact k
    obtain ⟨kc11, cl11, Ar11, q11, S11, M11, H11, G11⟩ := id A0
    have hin11 : ¬ ((1 : Int32) < 0 ∨ cl11.slots.size ≤ ((1 : Int32)).toNatClampNeg) := inb_of S11 ⟨by decide, by decide⟩
    have hat11 : cl11.slots[((1 : Int32)).toNatClampNeg]? = some (.int x1) := Has.at H11 hin11 rfl
    refine OEnd.go (T' := s₁) (g' := (mkF m 21 #[.val (.ref a0), .val (.ref a1), .val (.int (1 : Int32))] [(.int x1)])) (fun t k => ?_) ?_
    · refine X0.iaload hx (j := (1 : Int32)) (v := (.int x1)) (by rw [e0]; exact Ar11.1) (State.isArrayOf_alike hZ.alike Ar11.2.1) Ar11.2.2 hin11 hat11 (g := (mkF m 20 #[.val (.ref a0), .val (.ref a1), .val (.int (1 : Int32))] [(.int (1 : Int32)), (.ref a0)])) rfl rfl (hb hby d2_20) _ ?_
      exact k
    refine OEnd.go (T' := s₁) (g' := (mkF m 23 #[.val (.ref a0), .val (.ref a1), .val (.int (1 : Int32))] [(.int (1 : Int32)), (.ref a1), (.int x1)])) (fun t k => ?_) ?_
    · show Steps p.tables e below (s₁.setTop (mkF m 21 #[.val (.ref a0), .val (.ref a1), .val (.int (1 : Int32))] [(.int x1)])) t
      refine XS.aloadN X0.here hx rfl (hb hby d2_21) rfl rfl ?_
      show Steps p.tables e below (s₁.setTop (mkF m 22 #[.val (.ref a0), .val (.ref a1), .val (.int (1 : Int32))] [(.ref a1), (.int x1)])) t
      refine XS.iloadN X0.here hx rfl (hb hby d2_22) rfl ?_
      show Steps p.tables e below (s₁.setTop (mkF m 23 #[.val (.ref a0), .val (.ref a1), .val (.int (1 : Int32))] [(.int (1 : Int32)), (.ref a1), (.int x1)])) t
      exact k
    obtain ⟨kc12, cl12, Ar12, q12, S12, M12, H12, G12⟩ := id A1
    have hin12 : ¬ ((1 : Int32) < 0 ∨ cl12.slots.size ≤ ((1 : Int32)).toNatClampNeg) := inb_of S12 ⟨by decide, by decide⟩
    have hat12 : cl12.slots[((1 : Int32)).toNatClampNeg]? = some (.int y1) := Has.at H12 hin12 rfl
    refine OEnd.go (T' := s₁) (g' := (mkF m 24 #[.val (.ref a0), .val (.ref a1), .val (.int (1 : Int32))] [(.int y1), (.int x1)])) (fun t k => ?_) ?_
    · refine X0.iaload hx (j := (1 : Int32)) (v := (.int y1)) (by rw [e0]; exact Ar12.1) (State.isArrayOf_alike hZ.alike Ar12.2.1) Ar12.2.2 hin12 hat12 (g := (mkF m 23 #[.val (.ref a0), .val (.ref a1), .val (.int (1 : Int32))] [(.int (1 : Int32)), (.ref a1), (.int x1)])) rfl rfl (hb hby d2_23) _ ?_
      exact k
    refine OEnd.go (T' := s₁) (g' := (mkF m 32 #[.val (.ref a0), .val (.ref a1), .val (.int (1 : Int32))] [(.int (if x1 < y1 then (1 : Int32) else (0 : Int32)))])) (fun t k => ?_) ?_
    · show Steps p.tables e below (s₁.setTop (mkF m 24 #[.val (.ref a0), .val (.ref a1), .val (.int (1 : Int32))] [(.int y1), (.int x1)])) t
      by_cases hc13 : x1 < y1
      · skip
        refine XS.icmpNo X0.here hx rfl (hb hby d2_24) rfl (tlt (hc13)).2.1 ?_
        show Steps p.tables e below (s₁.setTop (mkF m 27 #[.val (.ref a0), .val (.ref a1), .val (.int (1 : Int32))] [])) t
        refine SGo.go (T' := s₁) (g' := (mkF m 32 #[.val (.ref a0), .val (.ref a1), .val (.int (1 : Int32))] [(.int (1 : Int32))])) (fun t k => ?_) ?_
        · show Steps p.tables e below (s₁.setTop (mkF m 27 #[.val (.ref a0), .val (.ref a1), .val (.int (1 : Int32))] [])) t
          refine XS.iconst X0.here hx rfl (hb hby d2_27) ?_
          show Steps p.tables e below (s₁.setTop (mkF m 28 #[.val (.ref a0), .val (.ref a1), .val (.int (1 : Int32))] [(.int (1 : Int32))])) t
          refine XS.goto X0.here hx rfl (pc0 := 28) (pc' := 32) rfl (hb hby d2_28) (by decide) (by decide) ?_
          show Steps p.tables e below (s₁.setTop (mkF m 32 #[.val (.ref a0), .val (.ref a1), .val (.int (1 : Int32))] [(.int (1 : Int32))])) t
          exact k
        exact (own_k (f := fun (z : Int32) => mkF m 32 #[.val (.ref a0), .val (.ref a1), .val (.int (1 : Int32))] [(.int z)]) (if_pos hc13) k)
      · skip
        refine XS.icmpYes X0.here hx rfl (pc0 := 24) (pc' := 31) rfl (hb hby d2_24) rfl (flt (hc13)).2.1 (by decide) (by decide) ?_
        show Steps p.tables e below (s₁.setTop (mkF m 31 #[.val (.ref a0), .val (.ref a1), .val (.int (1 : Int32))] [])) t
        refine SGo.go (T' := s₁) (g' := (mkF m 32 #[.val (.ref a0), .val (.ref a1), .val (.int (1 : Int32))] [(.int (0 : Int32))])) (fun t k => ?_) ?_
        · show Steps p.tables e below (s₁.setTop (mkF m 31 #[.val (.ref a0), .val (.ref a1), .val (.int (1 : Int32))] [])) t
          refine XS.iconst X0.here hx rfl (hb hby d2_31) ?_
          show Steps p.tables e below (s₁.setTop (mkF m 32 #[.val (.ref a0), .val (.ref a1), .val (.int (1 : Int32))] [(.int (0 : Int32))])) t
          exact k
        exact (own_k (f := fun (z : Int32) => mkF m 32 #[.val (.ref a0), .val (.ref a1), .val (.int (1 : Int32))] [(.int z)]) (if_neg hc13) k)
    exact OEnd.nar X0 hx (t := .boolean) Bd.returns (by simp) hlk (hb hby d2_32) ⟨(congrArg (fun z => some (Value.int (nar .boolean z))) (own_symm (if_neg hc4))), N0, e0⟩ (by decide) (by decide)
def f2_3 (x0 : Int32) (x1 : Int32) (x2 : Int32) (y0 : Int32) (y1 : Int32) (y2 : Int32) : Int32 := nar .boolean (if x2 = y2 then (if x1 = y1 then (if x0 = y0 then (0 : Int32) else (if x0 < y0 then (1 : Int32) else (0 : Int32))) else (if x1 < y1 then (1 : Int32) else (0 : Int32))) else (if x2 < y2 then (1 : Int32) else (0 : Int32)))
theorem ef_2_3 (m : MethodId) (x0 : Addr) (x1 : Addr) : entryFrame m #[(.ref x0), (.ref x1)] 3 = mkF m 0 #[.val (.ref x0), .val (.ref x1), .unset] [] := by first | (simp [entryFrame, mkF, argsToLocals, Value.category]; done) | rfl
def Q2_3 (Z : State) (a0 : Addr) (a1 : Addr) (x0 : Int32) (x1 : Int32) (x2 : Int32) (y0 : Int32) (y1 : Int32) (y2 : Int32) (h0 : Heap) (n0 : Nat) (v : Option Value) (h : Heap) (L : List Loc) : Prop := v = some (.int (f2_3 x0 x1 x2 y0 y1 y2)) ∧ Fr n0 L ∧ h = h0
set_option maxRecDepth 65536 in
set_option maxHeartbeats 40000000 in
theorem rm2_3 (l : Launch) (Z : State) (aZ : Array Value) (hw : ∀ d ∈ tables_1, d.before aZ Z = true) (ws : List Jvm.Cond) (a0 : Addr) (a1 : Addr) (x0 : Int32) (x1 : Int32) (x2 : Int32) (y0 : Int32) (y1 : Int32) (y2 : Int32) (h0 : Heap) (n0 : Nat) (Z0 : n0 ≤ h0.size) (A0 : OArr Z h0 a0 .int (3 : Int32) [(.int x0), (.int x1), (.int x2)] (.int (0 : Int32))) (A1 : OArr Z h0 a1 .int (3 : Int32) [(.int y0), (.int y1), (.int y2)] (.int (0 : Int32))) :
    MetFree l (⟨"com/example/assentor/assentor/check/Odometer", "before", "([I[I)Z"⟩ : MethodName) (head1 (Jvm.Cond.code (⟨"com/example/assentor/assentor/check/Odometer", "before", "([I[I)Z"⟩ : MethodName) prog_15_method_3_code 3 (some .boolean) :: ws) ({ frames := 0, cells := 0, slots := 0, locals := 0 } : Room)) (fun a U => a = #[(.ref a0), (.ref a1)] ∧ Z.Warmed39 U.vm ∧ U.heap = h0) (fun _ _ _ _ _ => True) (fun _ U o U' => ∃ v L, o = .returned v ∧ Q2_3 Z a0 a1 x0 x1 x2 y0 y1 y2 h0 n0 v U'.heap L ∧ FrameEnd U o U' L ({ frames := 0, cells := 0, slots := 0, locals := 0 } : Room).cells ({ frames := 0, cells := 0, slots := 0, locals := 0 } : Room).slots) := by
  refine MetFree.of_bodySF (plainFor_of_name pn_com_example_assentor_assentor_check_Odometer) hisR ?_
  intro p e s m args below meth c s₁ Bd hml0 hP hK
  obtain ⟨rfl, hZ, hh⟩ := hP
  have hx := Bd.exec
  have hby := Bd.bytes
  have hlk : meth.locks = false := BodyLoose.notSynchronized Bd
  have hml : c.maxLocals = 3 := hml0
  have hown : s.vm.findClass "com/example/assentor/assentor/check/Odometer" = some m.cls := findClass_of_methodNamed Bd.named
  have hnm := (name_of_methodNamed Bd.named Bd.method).1
  have X0 : Stand p l e ({ frames := 0, cells := 0, slots := 0, locals := 0 } : Room) s m #[(.ref a0), (.ref a1)] below meth c s₁ [] 0 0 := Stand.of_body Bd
  have e0 : s₁.heap = h0 := by rw [← hh, Bd.state]; rfl
  have N0 := Fr.nil n0
  show OEnd p e below s s₁ (entryFrame m #[(.ref a0), (.ref a1)] 3) (Q2_3 Z a0 a1 x0 x1 x2 y0 y1 y2 h0 n0) ({ frames := 0, cells := 0, slots := 0, locals := 0 } : Room).cells ({ frames := 0, cells := 0, slots := 0, locals := 0 } : Room).slots
  refine OEnd.go (g' := (mkF m 0 #[.val (.ref a0), .val (.ref a1), .unset] [])) (fun _ k => castTop (ef_2_3 m a0 a1) k) ?_
  refine OEnd.go (T' := s₁) (g' := (mkF m 1 #[.val (.ref a0), .val (.ref a1), .unset] [(.ref a0)])) (fun t k => ?_) ?_
  · show Steps p.tables e below (s₁.setTop (mkF m 0 #[.val (.ref a0), .val (.ref a1), .unset] [])) t
    refine XS.aloadN X0.here hx rfl (hb hby d2_0) rfl rfl ?_
    show Steps p.tables e below (s₁.setTop (mkF m 1 #[.val (.ref a0), .val (.ref a1), .unset] [(.ref a0)])) t
    exact k
  obtain ⟨kc1, cl1, Ar1, q1, S1, M1, H1, G1⟩ := id A0
  refine OEnd.go (T' := s₁) (g' := (mkF m 2 #[.val (.ref a0), .val (.ref a1), .unset] [(.int (3 : Int32))])) (fun t k => ?_) ?_
  · refine X0.arraylength hx (by rw [e0]; exact Ar1.1) (State.isArrayOf_alike hZ.alike Ar1.2.1) (g := (mkF m 1 #[.val (.ref a0), .val (.ref a1), .unset] [(.ref a0)])) rfl rfl (hb hby d2_1) _ ?_
    rw [len_of S1 M1]
    exact k
  refine OEnd.go (T' := s₁) (g' := (mkF m 11 #[.val (.ref a0), .val (.ref a1), .val (.int (2 : Int32))] [(.int (2 : Int32)), (.ref a0)])) (fun t k => ?_) ?_
  · show Steps p.tables e below (s₁.setTop (mkF m 2 #[.val (.ref a0), .val (.ref a1), .unset] [(.int (3 : Int32))])) t
    refine XS.iconst X0.here hx rfl (hb hby d2_2) ?_
    show Steps p.tables e below (s₁.setTop (mkF m 3 #[.val (.ref a0), .val (.ref a1), .unset] [(.int (1 : Int32)), (.int (3 : Int32))])) t
    refine XS.isub X0.here hx rfl (hb hby d2_3) rfl ?_
    show Steps p.tables e below (s₁.setTop (mkF m 4 #[.val (.ref a0), .val (.ref a1), .unset] [(.int (2 : Int32))])) t
    refine XS.istoreN X0.here hx rfl (hb hby d2_4) rfl (l' := #[.val (.ref a0), .val (.ref a1), .val (.int (2 : Int32))]) rfl ?_
    show Steps p.tables e below (s₁.setTop (mkF m 5 #[.val (.ref a0), .val (.ref a1), .val (.int (2 : Int32))] [])) t
    refine XS.iloadN X0.here hx rfl (hb hby d2_5) rfl ?_
    show Steps p.tables e below (s₁.setTop (mkF m 6 #[.val (.ref a0), .val (.ref a1), .val (.int (2 : Int32))] [(.int (2 : Int32))])) t
    refine XS.ifNo X0.here hx rfl (hb hby d2_6) rfl ((if0 _ _).trans (flt ((by decide))).1) ?_
    show Steps p.tables e below (s₁.setTop (mkF m 9 #[.val (.ref a0), .val (.ref a1), .val (.int (2 : Int32))] [])) t
    refine XS.aloadN X0.here hx rfl (hb hby d2_9) rfl rfl ?_
    show Steps p.tables e below (s₁.setTop (mkF m 10 #[.val (.ref a0), .val (.ref a1), .val (.int (2 : Int32))] [(.ref a0)])) t
    refine XS.iloadN X0.here hx rfl (hb hby d2_10) rfl ?_
    show Steps p.tables e below (s₁.setTop (mkF m 11 #[.val (.ref a0), .val (.ref a1), .val (.int (2 : Int32))] [(.int (2 : Int32)), (.ref a0)])) t
    exact k
  obtain ⟨kc2, cl2, Ar2, q2, S2, M2, H2, G2⟩ := id A0
  have hin2 : ¬ ((2 : Int32) < 0 ∨ cl2.slots.size ≤ ((2 : Int32)).toNatClampNeg) := inb_of S2 ⟨by decide, by decide⟩
  have hat2 : cl2.slots[((2 : Int32)).toNatClampNeg]? = some (.int x2) := Has.at H2 hin2 rfl
  refine OEnd.go (T' := s₁) (g' := (mkF m 12 #[.val (.ref a0), .val (.ref a1), .val (.int (2 : Int32))] [(.int x2)])) (fun t k => ?_) ?_
  · refine X0.iaload hx (j := (2 : Int32)) (v := (.int x2)) (by rw [e0]; exact Ar2.1) (State.isArrayOf_alike hZ.alike Ar2.2.1) Ar2.2.2 hin2 hat2 (g := (mkF m 11 #[.val (.ref a0), .val (.ref a1), .val (.int (2 : Int32))] [(.int (2 : Int32)), (.ref a0)])) rfl rfl (hb hby d2_11) _ ?_
    exact k
  refine OEnd.go (T' := s₁) (g' := (mkF m 14 #[.val (.ref a0), .val (.ref a1), .val (.int (2 : Int32))] [(.int (2 : Int32)), (.ref a1), (.int x2)])) (fun t k => ?_) ?_
  · show Steps p.tables e below (s₁.setTop (mkF m 12 #[.val (.ref a0), .val (.ref a1), .val (.int (2 : Int32))] [(.int x2)])) t
    refine XS.aloadN X0.here hx rfl (hb hby d2_12) rfl rfl ?_
    show Steps p.tables e below (s₁.setTop (mkF m 13 #[.val (.ref a0), .val (.ref a1), .val (.int (2 : Int32))] [(.ref a1), (.int x2)])) t
    refine XS.iloadN X0.here hx rfl (hb hby d2_13) rfl ?_
    show Steps p.tables e below (s₁.setTop (mkF m 14 #[.val (.ref a0), .val (.ref a1), .val (.int (2 : Int32))] [(.int (2 : Int32)), (.ref a1), (.int x2)])) t
    exact k
  obtain ⟨kc3, cl3, Ar3, q3, S3, M3, H3, G3⟩ := id A1
  have hin3 : ¬ ((2 : Int32) < 0 ∨ cl3.slots.size ≤ ((2 : Int32)).toNatClampNeg) := inb_of S3 ⟨by decide, by decide⟩
  have hat3 : cl3.slots[((2 : Int32)).toNatClampNeg]? = some (.int y2) := Has.at H3 hin3 rfl
  refine OEnd.go (T' := s₁) (g' := (mkF m 15 #[.val (.ref a0), .val (.ref a1), .val (.int (2 : Int32))] [(.int y2), (.int x2)])) (fun t k => ?_) ?_
  · refine X0.iaload hx (j := (2 : Int32)) (v := (.int y2)) (by rw [e0]; exact Ar3.1) (State.isArrayOf_alike hZ.alike Ar3.2.1) Ar3.2.2 hin3 hat3 (g := (mkF m 14 #[.val (.ref a0), .val (.ref a1), .val (.int (2 : Int32))] [(.int (2 : Int32)), (.ref a1), (.int x2)])) rfl rfl (hb hby d2_14) _ ?_
    exact k
  by_cases hc4 : x2 = y2
  · skip
    refine OEnd.go (T' := s₁) (g' := (mkF m 33 #[.val (.ref a0), .val (.ref a1), .val (.int (2 : Int32))] [])) (fun t k => ?_) ?_
    · show Steps p.tables e below (s₁.setTop (mkF m 15 #[.val (.ref a0), .val (.ref a1), .val (.int (2 : Int32))] [(.int y2), (.int x2)])) t
      refine XS.icmpYes X0.here hx rfl (pc0 := 15) (pc' := 33) rfl (hb hby d2_15) rfl (teq (hc4)).1 (by decide) (by decide) ?_
      show Steps p.tables e below (s₁.setTop (mkF m 33 #[.val (.ref a0), .val (.ref a1), .val (.int (2 : Int32))] [])) t
      exact k
    refine OEnd.go (T' := s₁) (g' := (mkF m 11 #[.val (.ref a0), .val (.ref a1), .val (.int (1 : Int32))] [(.int (1 : Int32)), (.ref a0)])) (fun t k => ?_) ?_
    · show Steps p.tables e below (s₁.setTop (mkF m 33 #[.val (.ref a0), .val (.ref a1), .val (.int (2 : Int32))] [])) t
      refine XS.iinc X0.here hx rfl (hb hby d2_33) rfl (l' := #[.val (.ref a0), .val (.ref a1), .val (.int (1 : Int32))]) rfl ?_
      show Steps p.tables e below (s₁.setTop (mkF m 36 #[.val (.ref a0), .val (.ref a1), .val (.int (1 : Int32))] [])) t
      refine XS.goto X0.here hx rfl (pc0 := 36) (pc' := 5) rfl (hb hby d2_36) (by decide) (by decide) ?_
      show Steps p.tables e below (s₁.setTop (mkF m 5 #[.val (.ref a0), .val (.ref a1), .val (.int (1 : Int32))] [])) t
      refine XS.iloadN X0.here hx rfl (hb hby d2_5) rfl ?_
      show Steps p.tables e below (s₁.setTop (mkF m 6 #[.val (.ref a0), .val (.ref a1), .val (.int (1 : Int32))] [(.int (1 : Int32))])) t
      refine XS.ifNo X0.here hx rfl (hb hby d2_6) rfl ((if0 _ _).trans (flt ((by decide))).1) ?_
      show Steps p.tables e below (s₁.setTop (mkF m 9 #[.val (.ref a0), .val (.ref a1), .val (.int (1 : Int32))] [])) t
      refine XS.aloadN X0.here hx rfl (hb hby d2_9) rfl rfl ?_
      show Steps p.tables e below (s₁.setTop (mkF m 10 #[.val (.ref a0), .val (.ref a1), .val (.int (1 : Int32))] [(.ref a0)])) t
      refine XS.iloadN X0.here hx rfl (hb hby d2_10) rfl ?_
      show Steps p.tables e below (s₁.setTop (mkF m 11 #[.val (.ref a0), .val (.ref a1), .val (.int (1 : Int32))] [(.int (1 : Int32)), (.ref a0)])) t
      exact k
    obtain ⟨kc5, cl5, Ar5, q5, S5, M5, H5, G5⟩ := id A0
    have hin5 : ¬ ((1 : Int32) < 0 ∨ cl5.slots.size ≤ ((1 : Int32)).toNatClampNeg) := inb_of S5 ⟨by decide, by decide⟩
    have hat5 : cl5.slots[((1 : Int32)).toNatClampNeg]? = some (.int x1) := Has.at H5 hin5 rfl
    refine OEnd.go (T' := s₁) (g' := (mkF m 12 #[.val (.ref a0), .val (.ref a1), .val (.int (1 : Int32))] [(.int x1)])) (fun t k => ?_) ?_
    · refine X0.iaload hx (j := (1 : Int32)) (v := (.int x1)) (by rw [e0]; exact Ar5.1) (State.isArrayOf_alike hZ.alike Ar5.2.1) Ar5.2.2 hin5 hat5 (g := (mkF m 11 #[.val (.ref a0), .val (.ref a1), .val (.int (1 : Int32))] [(.int (1 : Int32)), (.ref a0)])) rfl rfl (hb hby d2_11) _ ?_
      exact k
    refine OEnd.go (T' := s₁) (g' := (mkF m 14 #[.val (.ref a0), .val (.ref a1), .val (.int (1 : Int32))] [(.int (1 : Int32)), (.ref a1), (.int x1)])) (fun t k => ?_) ?_
    · show Steps p.tables e below (s₁.setTop (mkF m 12 #[.val (.ref a0), .val (.ref a1), .val (.int (1 : Int32))] [(.int x1)])) t
      refine XS.aloadN X0.here hx rfl (hb hby d2_12) rfl rfl ?_
      show Steps p.tables e below (s₁.setTop (mkF m 13 #[.val (.ref a0), .val (.ref a1), .val (.int (1 : Int32))] [(.ref a1), (.int x1)])) t
      refine XS.iloadN X0.here hx rfl (hb hby d2_13) rfl ?_
      show Steps p.tables e below (s₁.setTop (mkF m 14 #[.val (.ref a0), .val (.ref a1), .val (.int (1 : Int32))] [(.int (1 : Int32)), (.ref a1), (.int x1)])) t
      exact k
    obtain ⟨kc6, cl6, Ar6, q6, S6, M6, H6, G6⟩ := id A1
    have hin6 : ¬ ((1 : Int32) < 0 ∨ cl6.slots.size ≤ ((1 : Int32)).toNatClampNeg) := inb_of S6 ⟨by decide, by decide⟩
    have hat6 : cl6.slots[((1 : Int32)).toNatClampNeg]? = some (.int y1) := Has.at H6 hin6 rfl
    refine OEnd.go (T' := s₁) (g' := (mkF m 15 #[.val (.ref a0), .val (.ref a1), .val (.int (1 : Int32))] [(.int y1), (.int x1)])) (fun t k => ?_) ?_
    · refine X0.iaload hx (j := (1 : Int32)) (v := (.int y1)) (by rw [e0]; exact Ar6.1) (State.isArrayOf_alike hZ.alike Ar6.2.1) Ar6.2.2 hin6 hat6 (g := (mkF m 14 #[.val (.ref a0), .val (.ref a1), .val (.int (1 : Int32))] [(.int (1 : Int32)), (.ref a1), (.int x1)])) rfl rfl (hb hby d2_14) _ ?_
      exact k
    by_cases hc7 : x1 = y1
    · skip
      refine OEnd.go (T' := s₁) (g' := (mkF m 33 #[.val (.ref a0), .val (.ref a1), .val (.int (1 : Int32))] [])) (fun t k => ?_) ?_
      · show Steps p.tables e below (s₁.setTop (mkF m 15 #[.val (.ref a0), .val (.ref a1), .val (.int (1 : Int32))] [(.int y1), (.int x1)])) t
        refine XS.icmpYes X0.here hx rfl (pc0 := 15) (pc' := 33) rfl (hb hby d2_15) rfl (teq (hc7)).1 (by decide) (by decide) ?_
        show Steps p.tables e below (s₁.setTop (mkF m 33 #[.val (.ref a0), .val (.ref a1), .val (.int (1 : Int32))] [])) t
        exact k
      refine OEnd.go (T' := s₁) (g' := (mkF m 11 #[.val (.ref a0), .val (.ref a1), .val (.int (0 : Int32))] [(.int (0 : Int32)), (.ref a0)])) (fun t k => ?_) ?_
      · show Steps p.tables e below (s₁.setTop (mkF m 33 #[.val (.ref a0), .val (.ref a1), .val (.int (1 : Int32))] [])) t
        refine XS.iinc X0.here hx rfl (hb hby d2_33) rfl (l' := #[.val (.ref a0), .val (.ref a1), .val (.int (0 : Int32))]) rfl ?_
        show Steps p.tables e below (s₁.setTop (mkF m 36 #[.val (.ref a0), .val (.ref a1), .val (.int (0 : Int32))] [])) t
        refine XS.goto X0.here hx rfl (pc0 := 36) (pc' := 5) rfl (hb hby d2_36) (by decide) (by decide) ?_
        show Steps p.tables e below (s₁.setTop (mkF m 5 #[.val (.ref a0), .val (.ref a1), .val (.int (0 : Int32))] [])) t
        refine XS.iloadN X0.here hx rfl (hb hby d2_5) rfl ?_
        show Steps p.tables e below (s₁.setTop (mkF m 6 #[.val (.ref a0), .val (.ref a1), .val (.int (0 : Int32))] [(.int (0 : Int32))])) t
        refine XS.ifNo X0.here hx rfl (hb hby d2_6) rfl ((if0 _ _).trans (flt ((by decide))).1) ?_
        show Steps p.tables e below (s₁.setTop (mkF m 9 #[.val (.ref a0), .val (.ref a1), .val (.int (0 : Int32))] [])) t
        refine XS.aloadN X0.here hx rfl (hb hby d2_9) rfl rfl ?_
        show Steps p.tables e below (s₁.setTop (mkF m 10 #[.val (.ref a0), .val (.ref a1), .val (.int (0 : Int32))] [(.ref a0)])) t
        refine XS.iloadN X0.here hx rfl (hb hby d2_10) rfl ?_
        show Steps p.tables e below (s₁.setTop (mkF m 11 #[.val (.ref a0), .val (.ref a1), .val (.int (0 : Int32))] [(.int (0 : Int32)), (.ref a0)])) t
        exact k
      obtain ⟨kc8, cl8, Ar8, q8, S8, M8, H8, G8⟩ := id A0
      have hin8 : ¬ ((0 : Int32) < 0 ∨ cl8.slots.size ≤ ((0 : Int32)).toNatClampNeg) := inb_of S8 ⟨by decide, by decide⟩
      have hat8 : cl8.slots[((0 : Int32)).toNatClampNeg]? = some (.int x0) := Has.at H8 hin8 rfl
      refine OEnd.go (T' := s₁) (g' := (mkF m 12 #[.val (.ref a0), .val (.ref a1), .val (.int (0 : Int32))] [(.int x0)])) (fun t k => ?_) ?_
      · refine X0.iaload hx (j := (0 : Int32)) (v := (.int x0)) (by rw [e0]; exact Ar8.1) (State.isArrayOf_alike hZ.alike Ar8.2.1) Ar8.2.2 hin8 hat8 (g := (mkF m 11 #[.val (.ref a0), .val (.ref a1), .val (.int (0 : Int32))] [(.int (0 : Int32)), (.ref a0)])) rfl rfl (hb hby d2_11) _ ?_
        exact k
      refine OEnd.go (T' := s₁) (g' := (mkF m 14 #[.val (.ref a0), .val (.ref a1), .val (.int (0 : Int32))] [(.int (0 : Int32)), (.ref a1), (.int x0)])) (fun t k => ?_) ?_
      · show Steps p.tables e below (s₁.setTop (mkF m 12 #[.val (.ref a0), .val (.ref a1), .val (.int (0 : Int32))] [(.int x0)])) t
        refine XS.aloadN X0.here hx rfl (hb hby d2_12) rfl rfl ?_
        show Steps p.tables e below (s₁.setTop (mkF m 13 #[.val (.ref a0), .val (.ref a1), .val (.int (0 : Int32))] [(.ref a1), (.int x0)])) t
        refine XS.iloadN X0.here hx rfl (hb hby d2_13) rfl ?_
        show Steps p.tables e below (s₁.setTop (mkF m 14 #[.val (.ref a0), .val (.ref a1), .val (.int (0 : Int32))] [(.int (0 : Int32)), (.ref a1), (.int x0)])) t
        exact k
      obtain ⟨kc9, cl9, Ar9, q9, S9, M9, H9, G9⟩ := id A1
      have hin9 : ¬ ((0 : Int32) < 0 ∨ cl9.slots.size ≤ ((0 : Int32)).toNatClampNeg) := inb_of S9 ⟨by decide, by decide⟩
      have hat9 : cl9.slots[((0 : Int32)).toNatClampNeg]? = some (.int y0) := Has.at H9 hin9 rfl
      refine OEnd.go (T' := s₁) (g' := (mkF m 15 #[.val (.ref a0), .val (.ref a1), .val (.int (0 : Int32))] [(.int y0), (.int x0)])) (fun t k => ?_) ?_
      · refine X0.iaload hx (j := (0 : Int32)) (v := (.int y0)) (by rw [e0]; exact Ar9.1) (State.isArrayOf_alike hZ.alike Ar9.2.1) Ar9.2.2 hin9 hat9 (g := (mkF m 14 #[.val (.ref a0), .val (.ref a1), .val (.int (0 : Int32))] [(.int (0 : Int32)), (.ref a1), (.int x0)])) rfl rfl (hb hby d2_14) _ ?_
        exact k
      by_cases hc10 : x0 = y0
      · skip
        refine OEnd.go (T' := s₁) (g' := (mkF m 33 #[.val (.ref a0), .val (.ref a1), .val (.int (0 : Int32))] [])) (fun t k => ?_) ?_
        · show Steps p.tables e below (s₁.setTop (mkF m 15 #[.val (.ref a0), .val (.ref a1), .val (.int (0 : Int32))] [(.int y0), (.int x0)])) t
          refine XS.icmpYes X0.here hx rfl (pc0 := 15) (pc' := 33) rfl (hb hby d2_15) rfl (teq (hc10)).1 (by decide) (by decide) ?_
          show Steps p.tables e below (s₁.setTop (mkF m 33 #[.val (.ref a0), .val (.ref a1), .val (.int (0 : Int32))] [])) t
          exact k
        refine OEnd.go (T' := s₁) (g' := (mkF m 40 #[.val (.ref a0), .val (.ref a1), .val (.int (-1 : Int32))] [(.int (0 : Int32))])) (fun t k => ?_) ?_
        · show Steps p.tables e below (s₁.setTop (mkF m 33 #[.val (.ref a0), .val (.ref a1), .val (.int (0 : Int32))] [])) t
          refine XS.iinc X0.here hx rfl (hb hby d2_33) rfl (l' := #[.val (.ref a0), .val (.ref a1), .val (.int (-1 : Int32))]) rfl ?_
          show Steps p.tables e below (s₁.setTop (mkF m 36 #[.val (.ref a0), .val (.ref a1), .val (.int (-1 : Int32))] [])) t
          refine XS.goto X0.here hx rfl (pc0 := 36) (pc' := 5) rfl (hb hby d2_36) (by decide) (by decide) ?_
          show Steps p.tables e below (s₁.setTop (mkF m 5 #[.val (.ref a0), .val (.ref a1), .val (.int (-1 : Int32))] [])) t
          refine XS.iloadN X0.here hx rfl (hb hby d2_5) rfl ?_
          show Steps p.tables e below (s₁.setTop (mkF m 6 #[.val (.ref a0), .val (.ref a1), .val (.int (-1 : Int32))] [(.int (-1 : Int32))])) t
          refine XS.ifYes X0.here hx rfl (pc0 := 6) (pc' := 39) rfl (hb hby d2_6) rfl ((if0 _ _).trans (tlt ((by decide))).1) (by decide) (by decide) ?_
          show Steps p.tables e below (s₁.setTop (mkF m 39 #[.val (.ref a0), .val (.ref a1), .val (.int (-1 : Int32))] [])) t
          refine XS.iconst X0.here hx rfl (hb hby d2_39) ?_
          show Steps p.tables e below (s₁.setTop (mkF m 40 #[.val (.ref a0), .val (.ref a1), .val (.int (-1 : Int32))] [(.int (0 : Int32))])) t
          exact k
        exact OEnd.nar X0 hx (t := .boolean) Bd.returns (by simp) hlk (hb hby d2_40) ⟨(congrArg (fun z => some (Value.int (nar .boolean z))) (own_symm ((if_pos hc4).trans ((if_pos hc7).trans (if_pos hc10))))), N0, e0⟩ (by decide) (by decide)
      · skip
        refine OEnd.go (T' := s₁) (g' := (mkF m 18 #[.val (.ref a0), .val (.ref a1), .val (.int (0 : Int32))] [])) (fun t k => ?_) ?_
        · show Steps p.tables e below (s₁.setTop (mkF m 15 #[.val (.ref a0), .val (.ref a1), .val (.int (0 : Int32))] [(.int y0), (.int x0)])) t
          refine XS.icmpNo X0.here hx rfl (hb hby d2_15) rfl (feq (hc10)).1 ?_
          show Steps p.tables e below (s₁.setTop (mkF m 18 #[.val (.ref a0), .val (.ref a1), .val (.int (0 : Int32))] [])) t
          exact k
        refine OEnd.go (T' := s₁) (g' := (mkF m 20 #[.val (.ref a0), .val (.ref a1), .val (.int (0 : Int32))] [(.int (0 : Int32)), (.ref a0)])) (fun t k => ?_) ?_
        · show Steps p.tables e below (s₁.setTop (mkF m 18 #[.val (.ref a0), .val (.ref a1), .val (.int (0 : Int32))] [])) t
          refine XS.aloadN X0.here hx rfl (hb hby d2_18) rfl rfl ?_
          show Steps p.tables e below (s₁.setTop (mkF m 19 #[.val (.ref a0), .val (.ref a1), .val (.int (0 : Int32))] [(.ref a0)])) t
          refine XS.iloadN X0.here hx rfl (hb hby d2_19) rfl ?_
          show Steps p.tables e below (s₁.setTop (mkF m 20 #[.val (.ref a0), .val (.ref a1), .val (.int (0 : Int32))] [(.int (0 : Int32)), (.ref a0)])) t
          exact k
        obtain ⟨kc11, cl11, Ar11, q11, S11, M11, H11, G11⟩ := id A0
        have hin11 : ¬ ((0 : Int32) < 0 ∨ cl11.slots.size ≤ ((0 : Int32)).toNatClampNeg) := inb_of S11 ⟨by decide, by decide⟩
        have hat11 : cl11.slots[((0 : Int32)).toNatClampNeg]? = some (.int x0) := Has.at H11 hin11 rfl
        refine OEnd.go (T' := s₁) (g' := (mkF m 21 #[.val (.ref a0), .val (.ref a1), .val (.int (0 : Int32))] [(.int x0)])) (fun t k => ?_) ?_
        · refine X0.iaload hx (j := (0 : Int32)) (v := (.int x0)) (by rw [e0]; exact Ar11.1) (State.isArrayOf_alike hZ.alike Ar11.2.1) Ar11.2.2 hin11 hat11 (g := (mkF m 20 #[.val (.ref a0), .val (.ref a1), .val (.int (0 : Int32))] [(.int (0 : Int32)), (.ref a0)])) rfl rfl (hb hby d2_20) _ ?_
          exact k
        refine OEnd.go (T' := s₁) (g' := (mkF m 23 #[.val (.ref a0), .val (.ref a1), .val (.int (0 : Int32))] [(.int (0 : Int32)), (.ref a1), (.int x0)])) (fun t k => ?_) ?_
        · show Steps p.tables e below (s₁.setTop (mkF m 21 #[.val (.ref a0), .val (.ref a1), .val (.int (0 : Int32))] [(.int x0)])) t
          refine XS.aloadN X0.here hx rfl (hb hby d2_21) rfl rfl ?_
          show Steps p.tables e below (s₁.setTop (mkF m 22 #[.val (.ref a0), .val (.ref a1), .val (.int (0 : Int32))] [(.ref a1), (.int x0)])) t
          refine XS.iloadN X0.here hx rfl (hb hby d2_22) rfl ?_
          show Steps p.tables e below (s₁.setTop (mkF m 23 #[.val (.ref a0), .val (.ref a1), .val (.int (0 : Int32))] [(.int (0 : Int32)), (.ref a1), (.int x0)])) t
          exact k
        obtain ⟨kc12, cl12, Ar12, q12, S12, M12, H12, G12⟩ := id A1
        have hin12 : ¬ ((0 : Int32) < 0 ∨ cl12.slots.size ≤ ((0 : Int32)).toNatClampNeg) := inb_of S12 ⟨by decide, by decide⟩
        have hat12 : cl12.slots[((0 : Int32)).toNatClampNeg]? = some (.int y0) := Has.at H12 hin12 rfl
        refine OEnd.go (T' := s₁) (g' := (mkF m 24 #[.val (.ref a0), .val (.ref a1), .val (.int (0 : Int32))] [(.int y0), (.int x0)])) (fun t k => ?_) ?_
        · refine X0.iaload hx (j := (0 : Int32)) (v := (.int y0)) (by rw [e0]; exact Ar12.1) (State.isArrayOf_alike hZ.alike Ar12.2.1) Ar12.2.2 hin12 hat12 (g := (mkF m 23 #[.val (.ref a0), .val (.ref a1), .val (.int (0 : Int32))] [(.int (0 : Int32)), (.ref a1), (.int x0)])) rfl rfl (hb hby d2_23) _ ?_
          exact k
        refine OEnd.go (T' := s₁) (g' := (mkF m 32 #[.val (.ref a0), .val (.ref a1), .val (.int (0 : Int32))] [(.int (if x0 < y0 then (1 : Int32) else (0 : Int32)))])) (fun t k => ?_) ?_
        · show Steps p.tables e below (s₁.setTop (mkF m 24 #[.val (.ref a0), .val (.ref a1), .val (.int (0 : Int32))] [(.int y0), (.int x0)])) t
          by_cases hc13 : x0 < y0
          · skip
            refine XS.icmpNo X0.here hx rfl (hb hby d2_24) rfl (tlt (hc13)).2.1 ?_
            show Steps p.tables e below (s₁.setTop (mkF m 27 #[.val (.ref a0), .val (.ref a1), .val (.int (0 : Int32))] [])) t
            refine SGo.go (T' := s₁) (g' := (mkF m 32 #[.val (.ref a0), .val (.ref a1), .val (.int (0 : Int32))] [(.int (1 : Int32))])) (fun t k => ?_) ?_
            · show Steps p.tables e below (s₁.setTop (mkF m 27 #[.val (.ref a0), .val (.ref a1), .val (.int (0 : Int32))] [])) t
              refine XS.iconst X0.here hx rfl (hb hby d2_27) ?_
              show Steps p.tables e below (s₁.setTop (mkF m 28 #[.val (.ref a0), .val (.ref a1), .val (.int (0 : Int32))] [(.int (1 : Int32))])) t
              refine XS.goto X0.here hx rfl (pc0 := 28) (pc' := 32) rfl (hb hby d2_28) (by decide) (by decide) ?_
              show Steps p.tables e below (s₁.setTop (mkF m 32 #[.val (.ref a0), .val (.ref a1), .val (.int (0 : Int32))] [(.int (1 : Int32))])) t
              exact k
            exact (own_k (f := fun (z : Int32) => mkF m 32 #[.val (.ref a0), .val (.ref a1), .val (.int (0 : Int32))] [(.int z)]) (if_pos hc13) k)
          · skip
            refine XS.icmpYes X0.here hx rfl (pc0 := 24) (pc' := 31) rfl (hb hby d2_24) rfl (flt (hc13)).2.1 (by decide) (by decide) ?_
            show Steps p.tables e below (s₁.setTop (mkF m 31 #[.val (.ref a0), .val (.ref a1), .val (.int (0 : Int32))] [])) t
            refine SGo.go (T' := s₁) (g' := (mkF m 32 #[.val (.ref a0), .val (.ref a1), .val (.int (0 : Int32))] [(.int (0 : Int32))])) (fun t k => ?_) ?_
            · show Steps p.tables e below (s₁.setTop (mkF m 31 #[.val (.ref a0), .val (.ref a1), .val (.int (0 : Int32))] [])) t
              refine XS.iconst X0.here hx rfl (hb hby d2_31) ?_
              show Steps p.tables e below (s₁.setTop (mkF m 32 #[.val (.ref a0), .val (.ref a1), .val (.int (0 : Int32))] [(.int (0 : Int32))])) t
              exact k
            exact (own_k (f := fun (z : Int32) => mkF m 32 #[.val (.ref a0), .val (.ref a1), .val (.int (0 : Int32))] [(.int z)]) (if_neg hc13) k)
        exact OEnd.nar X0 hx (t := .boolean) Bd.returns (by simp) hlk (hb hby d2_32) ⟨(congrArg (fun z => some (Value.int (nar .boolean z))) (own_symm ((if_pos hc4).trans ((if_pos hc7).trans (if_neg hc10))))), N0, e0⟩ (by decide) (by decide)
    · skip
      refine OEnd.go (T' := s₁) (g' := (mkF m 18 #[.val (.ref a0), .val (.ref a1), .val (.int (1 : Int32))] [])) (fun t k => ?_) ?_
      · show Steps p.tables e below (s₁.setTop (mkF m 15 #[.val (.ref a0), .val (.ref a1), .val (.int (1 : Int32))] [(.int y1), (.int x1)])) t
        refine XS.icmpNo X0.here hx rfl (hb hby d2_15) rfl (feq (hc7)).1 ?_
        show Steps p.tables e below (s₁.setTop (mkF m 18 #[.val (.ref a0), .val (.ref a1), .val (.int (1 : Int32))] [])) t
        exact k
      refine OEnd.go (T' := s₁) (g' := (mkF m 20 #[.val (.ref a0), .val (.ref a1), .val (.int (1 : Int32))] [(.int (1 : Int32)), (.ref a0)])) (fun t k => ?_) ?_
      · show Steps p.tables e below (s₁.setTop (mkF m 18 #[.val (.ref a0), .val (.ref a1), .val (.int (1 : Int32))] [])) t
        refine XS.aloadN X0.here hx rfl (hb hby d2_18) rfl rfl ?_
        show Steps p.tables e below (s₁.setTop (mkF m 19 #[.val (.ref a0), .val (.ref a1), .val (.int (1 : Int32))] [(.ref a0)])) t
        refine XS.iloadN X0.here hx rfl (hb hby d2_19) rfl ?_
        show Steps p.tables e below (s₁.setTop (mkF m 20 #[.val (.ref a0), .val (.ref a1), .val (.int (1 : Int32))] [(.int (1 : Int32)), (.ref a0)])) t
        exact k
      obtain ⟨kc14, cl14, Ar14, q14, S14, M14, H14, G14⟩ := id A0
      have hin14 : ¬ ((1 : Int32) < 0 ∨ cl14.slots.size ≤ ((1 : Int32)).toNatClampNeg) := inb_of S14 ⟨by decide, by decide⟩
      have hat14 : cl14.slots[((1 : Int32)).toNatClampNeg]? = some (.int x1) := Has.at H14 hin14 rfl
      refine OEnd.go (T' := s₁) (g' := (mkF m 21 #[.val (.ref a0), .val (.ref a1), .val (.int (1 : Int32))] [(.int x1)])) (fun t k => ?_) ?_
      · refine X0.iaload hx (j := (1 : Int32)) (v := (.int x1)) (by rw [e0]; exact Ar14.1) (State.isArrayOf_alike hZ.alike Ar14.2.1) Ar14.2.2 hin14 hat14 (g := (mkF m 20 #[.val (.ref a0), .val (.ref a1), .val (.int (1 : Int32))] [(.int (1 : Int32)), (.ref a0)])) rfl rfl (hb hby d2_20) _ ?_
        exact k
      refine OEnd.go (T' := s₁) (g' := (mkF m 23 #[.val (.ref a0), .val (.ref a1), .val (.int (1 : Int32))] [(.int (1 : Int32)), (.ref a1), (.int x1)])) (fun t k => ?_) ?_
      · show Steps p.tables e below (s₁.setTop (mkF m 21 #[.val (.ref a0), .val (.ref a1), .val (.int (1 : Int32))] [(.int x1)])) t
        refine XS.aloadN X0.here hx rfl (hb hby d2_21) rfl rfl ?_
        show Steps p.tables e below (s₁.setTop (mkF m 22 #[.val (.ref a0), .val (.ref a1), .val (.int (1 : Int32))] [(.ref a1), (.int x1)])) t
        refine XS.iloadN X0.here hx rfl (hb hby d2_22) rfl ?_
        show Steps p.tables e below (s₁.setTop (mkF m 23 #[.val (.ref a0), .val (.ref a1), .val (.int (1 : Int32))] [(.int (1 : Int32)), (.ref a1), (.int x1)])) t
        exact k
      obtain ⟨kc15, cl15, Ar15, q15, S15, M15, H15, G15⟩ := id A1
      have hin15 : ¬ ((1 : Int32) < 0 ∨ cl15.slots.size ≤ ((1 : Int32)).toNatClampNeg) := inb_of S15 ⟨by decide, by decide⟩
      have hat15 : cl15.slots[((1 : Int32)).toNatClampNeg]? = some (.int y1) := Has.at H15 hin15 rfl
      refine OEnd.go (T' := s₁) (g' := (mkF m 24 #[.val (.ref a0), .val (.ref a1), .val (.int (1 : Int32))] [(.int y1), (.int x1)])) (fun t k => ?_) ?_
      · refine X0.iaload hx (j := (1 : Int32)) (v := (.int y1)) (by rw [e0]; exact Ar15.1) (State.isArrayOf_alike hZ.alike Ar15.2.1) Ar15.2.2 hin15 hat15 (g := (mkF m 23 #[.val (.ref a0), .val (.ref a1), .val (.int (1 : Int32))] [(.int (1 : Int32)), (.ref a1), (.int x1)])) rfl rfl (hb hby d2_23) _ ?_
        exact k
      refine OEnd.go (T' := s₁) (g' := (mkF m 32 #[.val (.ref a0), .val (.ref a1), .val (.int (1 : Int32))] [(.int (if x1 < y1 then (1 : Int32) else (0 : Int32)))])) (fun t k => ?_) ?_
      · show Steps p.tables e below (s₁.setTop (mkF m 24 #[.val (.ref a0), .val (.ref a1), .val (.int (1 : Int32))] [(.int y1), (.int x1)])) t
        by_cases hc16 : x1 < y1
        · skip
          refine XS.icmpNo X0.here hx rfl (hb hby d2_24) rfl (tlt (hc16)).2.1 ?_
          show Steps p.tables e below (s₁.setTop (mkF m 27 #[.val (.ref a0), .val (.ref a1), .val (.int (1 : Int32))] [])) t
          refine SGo.go (T' := s₁) (g' := (mkF m 32 #[.val (.ref a0), .val (.ref a1), .val (.int (1 : Int32))] [(.int (1 : Int32))])) (fun t k => ?_) ?_
          · show Steps p.tables e below (s₁.setTop (mkF m 27 #[.val (.ref a0), .val (.ref a1), .val (.int (1 : Int32))] [])) t
            refine XS.iconst X0.here hx rfl (hb hby d2_27) ?_
            show Steps p.tables e below (s₁.setTop (mkF m 28 #[.val (.ref a0), .val (.ref a1), .val (.int (1 : Int32))] [(.int (1 : Int32))])) t
            refine XS.goto X0.here hx rfl (pc0 := 28) (pc' := 32) rfl (hb hby d2_28) (by decide) (by decide) ?_
            show Steps p.tables e below (s₁.setTop (mkF m 32 #[.val (.ref a0), .val (.ref a1), .val (.int (1 : Int32))] [(.int (1 : Int32))])) t
            exact k
          exact (own_k (f := fun (z : Int32) => mkF m 32 #[.val (.ref a0), .val (.ref a1), .val (.int (1 : Int32))] [(.int z)]) (if_pos hc16) k)
        · skip
          refine XS.icmpYes X0.here hx rfl (pc0 := 24) (pc' := 31) rfl (hb hby d2_24) rfl (flt (hc16)).2.1 (by decide) (by decide) ?_
          show Steps p.tables e below (s₁.setTop (mkF m 31 #[.val (.ref a0), .val (.ref a1), .val (.int (1 : Int32))] [])) t
          refine SGo.go (T' := s₁) (g' := (mkF m 32 #[.val (.ref a0), .val (.ref a1), .val (.int (1 : Int32))] [(.int (0 : Int32))])) (fun t k => ?_) ?_
          · show Steps p.tables e below (s₁.setTop (mkF m 31 #[.val (.ref a0), .val (.ref a1), .val (.int (1 : Int32))] [])) t
            refine XS.iconst X0.here hx rfl (hb hby d2_31) ?_
            show Steps p.tables e below (s₁.setTop (mkF m 32 #[.val (.ref a0), .val (.ref a1), .val (.int (1 : Int32))] [(.int (0 : Int32))])) t
            exact k
          exact (own_k (f := fun (z : Int32) => mkF m 32 #[.val (.ref a0), .val (.ref a1), .val (.int (1 : Int32))] [(.int z)]) (if_neg hc16) k)
      exact OEnd.nar X0 hx (t := .boolean) Bd.returns (by simp) hlk (hb hby d2_32) ⟨(congrArg (fun z => some (Value.int (nar .boolean z))) (own_symm ((if_pos hc4).trans (if_neg hc7)))), N0, e0⟩ (by decide) (by decide)
  · skip
    refine OEnd.go (T' := s₁) (g' := (mkF m 18 #[.val (.ref a0), .val (.ref a1), .val (.int (2 : Int32))] [])) (fun t k => ?_) ?_
    · show Steps p.tables e below (s₁.setTop (mkF m 15 #[.val (.ref a0), .val (.ref a1), .val (.int (2 : Int32))] [(.int y2), (.int x2)])) t
      refine XS.icmpNo X0.here hx rfl (hb hby d2_15) rfl (feq (hc4)).1 ?_
      show Steps p.tables e below (s₁.setTop (mkF m 18 #[.val (.ref a0), .val (.ref a1), .val (.int (2 : Int32))] [])) t
      exact k
    refine OEnd.go (T' := s₁) (g' := (mkF m 20 #[.val (.ref a0), .val (.ref a1), .val (.int (2 : Int32))] [(.int (2 : Int32)), (.ref a0)])) (fun t k => ?_) ?_
    · show Steps p.tables e below (s₁.setTop (mkF m 18 #[.val (.ref a0), .val (.ref a1), .val (.int (2 : Int32))] [])) t
      refine XS.aloadN X0.here hx rfl (hb hby d2_18) rfl rfl ?_
      show Steps p.tables e below (s₁.setTop (mkF m 19 #[.val (.ref a0), .val (.ref a1), .val (.int (2 : Int32))] [(.ref a0)])) t
      refine XS.iloadN X0.here hx rfl (hb hby d2_19) rfl ?_
      show Steps p.tables e below (s₁.setTop (mkF m 20 #[.val (.ref a0), .val (.ref a1), .val (.int (2 : Int32))] [(.int (2 : Int32)), (.ref a0)])) t
      exact k
    obtain ⟨kc17, cl17, Ar17, q17, S17, M17, H17, G17⟩ := id A0
    have hin17 : ¬ ((2 : Int32) < 0 ∨ cl17.slots.size ≤ ((2 : Int32)).toNatClampNeg) := inb_of S17 ⟨by decide, by decide⟩
    have hat17 : cl17.slots[((2 : Int32)).toNatClampNeg]? = some (.int x2) := Has.at H17 hin17 rfl
    refine OEnd.go (T' := s₁) (g' := (mkF m 21 #[.val (.ref a0), .val (.ref a1), .val (.int (2 : Int32))] [(.int x2)])) (fun t k => ?_) ?_
    · refine X0.iaload hx (j := (2 : Int32)) (v := (.int x2)) (by rw [e0]; exact Ar17.1) (State.isArrayOf_alike hZ.alike Ar17.2.1) Ar17.2.2 hin17 hat17 (g := (mkF m 20 #[.val (.ref a0), .val (.ref a1), .val (.int (2 : Int32))] [(.int (2 : Int32)), (.ref a0)])) rfl rfl (hb hby d2_20) _ ?_
      exact k
    refine OEnd.go (T' := s₁) (g' := (mkF m 23 #[.val (.ref a0), .val (.ref a1), .val (.int (2 : Int32))] [(.int (2 : Int32)), (.ref a1), (.int x2)])) (fun t k => ?_) ?_
    · show Steps p.tables e below (s₁.setTop (mkF m 21 #[.val (.ref a0), .val (.ref a1), .val (.int (2 : Int32))] [(.int x2)])) t
      refine XS.aloadN X0.here hx rfl (hb hby d2_21) rfl rfl ?_
      show Steps p.tables e below (s₁.setTop (mkF m 22 #[.val (.ref a0), .val (.ref a1), .val (.int (2 : Int32))] [(.ref a1), (.int x2)])) t
      refine XS.iloadN X0.here hx rfl (hb hby d2_22) rfl ?_
      show Steps p.tables e below (s₁.setTop (mkF m 23 #[.val (.ref a0), .val (.ref a1), .val (.int (2 : Int32))] [(.int (2 : Int32)), (.ref a1), (.int x2)])) t
      exact k
    obtain ⟨kc18, cl18, Ar18, q18, S18, M18, H18, G18⟩ := id A1
    have hin18 : ¬ ((2 : Int32) < 0 ∨ cl18.slots.size ≤ ((2 : Int32)).toNatClampNeg) := inb_of S18 ⟨by decide, by decide⟩
    have hat18 : cl18.slots[((2 : Int32)).toNatClampNeg]? = some (.int y2) := Has.at H18 hin18 rfl
    refine OEnd.go (T' := s₁) (g' := (mkF m 24 #[.val (.ref a0), .val (.ref a1), .val (.int (2 : Int32))] [(.int y2), (.int x2)])) (fun t k => ?_) ?_
    · refine X0.iaload hx (j := (2 : Int32)) (v := (.int y2)) (by rw [e0]; exact Ar18.1) (State.isArrayOf_alike hZ.alike Ar18.2.1) Ar18.2.2 hin18 hat18 (g := (mkF m 23 #[.val (.ref a0), .val (.ref a1), .val (.int (2 : Int32))] [(.int (2 : Int32)), (.ref a1), (.int x2)])) rfl rfl (hb hby d2_23) _ ?_
      exact k
    refine OEnd.go (T' := s₁) (g' := (mkF m 32 #[.val (.ref a0), .val (.ref a1), .val (.int (2 : Int32))] [(.int (if x2 < y2 then (1 : Int32) else (0 : Int32)))])) (fun t k => ?_) ?_
    · show Steps p.tables e below (s₁.setTop (mkF m 24 #[.val (.ref a0), .val (.ref a1), .val (.int (2 : Int32))] [(.int y2), (.int x2)])) t
      by_cases hc19 : x2 < y2
      · skip
        refine XS.icmpNo X0.here hx rfl (hb hby d2_24) rfl (tlt (hc19)).2.1 ?_
        show Steps p.tables e below (s₁.setTop (mkF m 27 #[.val (.ref a0), .val (.ref a1), .val (.int (2 : Int32))] [])) t
        refine SGo.go (T' := s₁) (g' := (mkF m 32 #[.val (.ref a0), .val (.ref a1), .val (.int (2 : Int32))] [(.int (1 : Int32))])) (fun t k => ?_) ?_
        · show Steps p.tables e below (s₁.setTop (mkF m 27 #[.val (.ref a0), .val (.ref a1), .val (.int (2 : Int32))] [])) t
          refine XS.iconst X0.here hx rfl (hb hby d2_27) ?_
          show Steps p.tables e below (s₁.setTop (mkF m 28 #[.val (.ref a0), .val (.ref a1), .val (.int (2 : Int32))] [(.int (1 : Int32))])) t
          refine XS.goto X0.here hx rfl (pc0 := 28) (pc' := 32) rfl (hb hby d2_28) (by decide) (by decide) ?_
          show Steps p.tables e below (s₁.setTop (mkF m 32 #[.val (.ref a0), .val (.ref a1), .val (.int (2 : Int32))] [(.int (1 : Int32))])) t
          exact k
        exact (own_k (f := fun (z : Int32) => mkF m 32 #[.val (.ref a0), .val (.ref a1), .val (.int (2 : Int32))] [(.int z)]) (if_pos hc19) k)
      · skip
        refine XS.icmpYes X0.here hx rfl (pc0 := 24) (pc' := 31) rfl (hb hby d2_24) rfl (flt (hc19)).2.1 (by decide) (by decide) ?_
        show Steps p.tables e below (s₁.setTop (mkF m 31 #[.val (.ref a0), .val (.ref a1), .val (.int (2 : Int32))] [])) t
        refine SGo.go (T' := s₁) (g' := (mkF m 32 #[.val (.ref a0), .val (.ref a1), .val (.int (2 : Int32))] [(.int (0 : Int32))])) (fun t k => ?_) ?_
        · show Steps p.tables e below (s₁.setTop (mkF m 31 #[.val (.ref a0), .val (.ref a1), .val (.int (2 : Int32))] [])) t
          refine XS.iconst X0.here hx rfl (hb hby d2_31) ?_
          show Steps p.tables e below (s₁.setTop (mkF m 32 #[.val (.ref a0), .val (.ref a1), .val (.int (2 : Int32))] [(.int (0 : Int32))])) t
          exact k
        exact (own_k (f := fun (z : Int32) => mkF m 32 #[.val (.ref a0), .val (.ref a1), .val (.int (2 : Int32))] [(.int z)]) (if_neg hc19) k)
    exact OEnd.nar X0 hx (t := .boolean) Bd.returns (by simp) hlk (hb hby d2_32) ⟨(congrArg (fun z => some (Value.int (nar .boolean z))) (own_symm (if_neg hc4))), N0, e0⟩ (by decide) (by decide)
theorem pd__IIII__I : parseMethodDescriptor "(IIII)[I" = some ⟨[.int, .int, .int, .int], some (.array .int)⟩ := by decide +kernel
theorem pd___I_I_Z : parseMethodDescriptor "([I[I)Z" = some ⟨[(.array .int), (.array .int)], some .boolean⟩ := by decide +kernel
theorem pd__II_I : parseMethodDescriptor "(II)I" = some ⟨[.int, .int], some .int⟩ := by decide +kernel
def v0_10 (p0 : Int32) (q1 : Int64) (q2 : Int64) (q3 : Int64) : Int32 := (((q1.toUInt64 >>> ((32 : Int32) &&& 0x3f).toInt64.toUInt64).toInt64).toInt32)
def v0_17 (p0 : Int32) (q1 : Int64) (q2 : Int64) (q3 : Int64) : Int32 := (((q2.toUInt64 >>> ((32 : Int32) &&& 0x3f).toInt64.toUInt64).toInt64).toInt32)
def v0_25 (p0 : Int32) (q1 : Int64) (q2 : Int64) (q3 : Int64) : Int32 := (((q3.toUInt64 >>> ((32 : Int32) &&& 0x3f).toInt64.toUInt64).toInt64).toInt32)
def v0_40 (p0 : Int32) (q1 : Int64) (q2 : Int64) (q3 : Int64) : Int32 := (if (p0 &&& (4 : Int32)) = (0 : Int32) then (q1.toInt32) else (v0_10 p0 q1 q2 q3))
def v0_56 (p0 : Int32) (q1 : Int64) (q2 : Int64) (q3 : Int64) : Int32 := (if (p0 &&& (8 : Int32)) = (0 : Int32) then (q2.toInt32) else (v0_17 p0 q1 q2 q3))
def v0_73 (p0 : Int32) (q1 : Int64) (q2 : Int64) (q3 : Int64) : Int32 := (if (p0 &&& (16 : Int32)) = (0 : Int32) then (q3.toInt32) else (v0_25 p0 q1 q2 q3))
def v0_156 (p0 : Int32) (q1 : Int64) (q2 : Int64) (q3 : Int64) : Int32 := (f3 (v0_10 p0 q1 q2 q3) (v0_40 p0 q1 q2 q3))
def v0_189 (p0 : Int32) (q1 : Int64) (q2 : Int64) (q3 : Int64) : Int32 := (f2_1 (v0_10 p0 q1 q2 q3) (v0_40 p0 q1 q2 q3))
def v0_198 (p0 : Int32) (q1 : Int64) (q2 : Int64) (q3 : Int64) : Int32 := (f2_1 (v0_40 p0 q1 q2 q3) (v0_10 p0 q1 q2 q3))
def v0_212_s0 (p0 : Int32) (q1 : Int64) (q2 : Int64) (q3 : Int64) : Int32 := (if (v0_156 p0 q1 q2 q3) < (0 : Int32) then (1 : Int32) else (0 : Int32))
def v0_227_s0 (p0 : Int32) (q1 : Int64) (q2 : Int64) (q3 : Int64) : Int32 := (if (0 : Int32) < (v0_156 p0 q1 q2 q3) then (1 : Int32) else (0 : Int32))
def v0_137 (p0 : Int32) (q1 : Int64) (q2 : Int64) (q3 : Int64) : Int32 := (f3 (v0_17 p0 q1 q2 q3) (v0_56 p0 q1 q2 q3))
def v0_180 (p0 : Int32) (q1 : Int64) (q2 : Int64) (q3 : Int64) : Int32 := (if (v0_137 p0 q1 q2 q3) = (0 : Int32) then (v0_156 p0 q1 q2 q3) else (v0_137 p0 q1 q2 q3))
def v0_189x (p0 : Int32) (q1 : Int64) (q2 : Int64) (q3 : Int64) : Int32 := (f2_2 (v0_10 p0 q1 q2 q3) (v0_17 p0 q1 q2 q3) (v0_40 p0 q1 q2 q3) (v0_56 p0 q1 q2 q3))
def v0_198x (p0 : Int32) (q1 : Int64) (q2 : Int64) (q3 : Int64) : Int32 := (f2_2 (v0_40 p0 q1 q2 q3) (v0_56 p0 q1 q2 q3) (v0_10 p0 q1 q2 q3) (v0_17 p0 q1 q2 q3))
def v0_212_s0x (p0 : Int32) (q1 : Int64) (q2 : Int64) (q3 : Int64) : Int32 := (if (v0_180 p0 q1 q2 q3) < (0 : Int32) then (1 : Int32) else (0 : Int32))
def v0_227_s0x (p0 : Int32) (q1 : Int64) (q2 : Int64) (q3 : Int64) : Int32 := (if (0 : Int32) < (v0_180 p0 q1 q2 q3) then (1 : Int32) else (0 : Int32))
def v0_118 (p0 : Int32) (q1 : Int64) (q2 : Int64) (q3 : Int64) : Int32 := (f3 (v0_25 p0 q1 q2 q3) (v0_73 p0 q1 q2 q3))
def v0_180x (p0 : Int32) (q1 : Int64) (q2 : Int64) (q3 : Int64) : Int32 := (if (v0_118 p0 q1 q2 q3) = (0 : Int32) then (if (v0_137 p0 q1 q2 q3) = (0 : Int32) then (v0_156 p0 q1 q2 q3) else (v0_137 p0 q1 q2 q3)) else (v0_118 p0 q1 q2 q3))
def v0_189xx (p0 : Int32) (q1 : Int64) (q2 : Int64) (q3 : Int64) : Int32 := (f2_3 (v0_10 p0 q1 q2 q3) (v0_17 p0 q1 q2 q3) (v0_25 p0 q1 q2 q3) (v0_40 p0 q1 q2 q3) (v0_56 p0 q1 q2 q3) (v0_73 p0 q1 q2 q3))
def v0_198xx (p0 : Int32) (q1 : Int64) (q2 : Int64) (q3 : Int64) : Int32 := (f2_3 (v0_40 p0 q1 q2 q3) (v0_56 p0 q1 q2 q3) (v0_73 p0 q1 q2 q3) (v0_10 p0 q1 q2 q3) (v0_17 p0 q1 q2 q3) (v0_25 p0 q1 q2 q3))
def v0_212_s0xx (p0 : Int32) (q1 : Int64) (q2 : Int64) (q3 : Int64) : Int32 := (if (v0_180x p0 q1 q2 q3) < (0 : Int32) then (1 : Int32) else (0 : Int32))
def v0_227_s0xx (p0 : Int32) (q1 : Int64) (q2 : Int64) (q3 : Int64) : Int32 := (if (0 : Int32) < (v0_180x p0 q1 q2 q3) then (1 : Int32) else (0 : Int32))
def la0_0 (p0 : Int32) (q1 : Int64) (q2 : Int64) (q3 : Int64) : Array Slot := #[.val (.int p0), .val (.long q1), .second, .val (.long q2), .second, .val (.long q3), .second, .val (.int (p0 &&& (3 : Int32))), .unset, .unset, .unset, .unset, .unset, .unset, .unset, .unset, .unset, .unset, .unset, .unset, .unset, .unset]
def la0_1 (p0 : Int32) (q1 : Int64) (q2 : Int64) (q3 : Int64) : Array Slot := #[.val (.int p0), .val (.long q1), .second, .val (.long q2), .second, .val (.long q3), .second, .val (.int (p0 &&& (3 : Int32))), .val (.int (v0_10 p0 q1 q2 q3)), .unset, .unset, .unset, .unset, .unset, .unset, .unset, .unset, .unset, .unset, .unset, .unset, .unset]
def la0_2 (p0 : Int32) (q1 : Int64) (q2 : Int64) (q3 : Int64) : Array Slot := #[.val (.int p0), .val (.long q1), .second, .val (.long q2), .second, .val (.long q3), .second, .val (.int (p0 &&& (3 : Int32))), .val (.int (v0_10 p0 q1 q2 q3)), .val (.int (v0_17 p0 q1 q2 q3)), .unset, .unset, .unset, .unset, .unset, .unset, .unset, .unset, .unset, .unset, .unset, .unset]
def la0_3 (p0 : Int32) (q1 : Int64) (q2 : Int64) (q3 : Int64) : Array Slot := #[.val (.int p0), .val (.long q1), .second, .val (.long q2), .second, .val (.long q3), .second, .val (.int (p0 &&& (3 : Int32))), .val (.int (v0_10 p0 q1 q2 q3)), .val (.int (v0_17 p0 q1 q2 q3)), .val (.int (v0_25 p0 q1 q2 q3)), .unset, .unset, .unset, .unset, .unset, .unset, .unset, .unset, .unset, .unset, .unset]
def la0_4 (p0 : Int32) (q1 : Int64) (q2 : Int64) (q3 : Int64) : Array Slot := #[.val (.int p0), .val (.long q1), .second, .val (.long q2), .second, .val (.long q3), .second, .val (.int (p0 &&& (3 : Int32))), .val (.int (v0_10 p0 q1 q2 q3)), .val (.int (v0_17 p0 q1 q2 q3)), .val (.int (v0_25 p0 q1 q2 q3)), .val (.int (v0_40 p0 q1 q2 q3)), .unset, .unset, .unset, .unset, .unset, .unset, .unset, .unset, .unset, .unset]
def la0_5 (p0 : Int32) (q1 : Int64) (q2 : Int64) (q3 : Int64) : Array Slot := #[.val (.int p0), .val (.long q1), .second, .val (.long q2), .second, .val (.long q3), .second, .val (.int (p0 &&& (3 : Int32))), .val (.int (v0_10 p0 q1 q2 q3)), .val (.int (v0_17 p0 q1 q2 q3)), .val (.int (v0_25 p0 q1 q2 q3)), .val (.int (v0_40 p0 q1 q2 q3)), .val (.int (v0_56 p0 q1 q2 q3)), .unset, .unset, .unset, .unset, .unset, .unset, .unset, .unset, .unset]
def la0_6 (p0 : Int32) (q1 : Int64) (q2 : Int64) (q3 : Int64) : Array Slot := #[.val (.int p0), .val (.long q1), .second, .val (.long q2), .second, .val (.long q3), .second, .val (.int (p0 &&& (3 : Int32))), .val (.int (v0_10 p0 q1 q2 q3)), .val (.int (v0_17 p0 q1 q2 q3)), .val (.int (v0_25 p0 q1 q2 q3)), .val (.int (v0_40 p0 q1 q2 q3)), .val (.int (v0_56 p0 q1 q2 q3)), .val (.int (v0_73 p0 q1 q2 q3)), .unset, .unset, .unset, .unset, .unset, .unset, .unset, .unset]
def la0_7 (p0 : Int32) (q1 : Int64) (q2 : Int64) (q3 : Int64) : Array Slot := #[.val (.int p0), .val (.long q1), .second, .val (.long q2), .second, .val (.long q3), .second, .val (.int (0 : Int32)), .val (.int (v0_10 p0 q1 q2 q3)), .val (.int (v0_17 p0 q1 q2 q3)), .val (.int (v0_25 p0 q1 q2 q3)), .val (.int (v0_40 p0 q1 q2 q3)), .val (.int (v0_56 p0 q1 q2 q3)), .val (.int (v0_73 p0 q1 q2 q3)), .unset, .unset, .unset, .unset, .unset, .unset, .unset, .unset]
def la0_8 (p0 : Int32) (q1 : Int64) (q2 : Int64) (q3 : Int64) (r0_83 : Addr) : Array Slot := #[.val (.int p0), .val (.long q1), .second, .val (.long q2), .second, .val (.long q3), .second, .val (.int (0 : Int32)), .val (.int (v0_10 p0 q1 q2 q3)), .val (.int (v0_17 p0 q1 q2 q3)), .val (.int (v0_25 p0 q1 q2 q3)), .val (.int (v0_40 p0 q1 q2 q3)), .val (.int (v0_56 p0 q1 q2 q3)), .val (.int (v0_73 p0 q1 q2 q3)), .val (.ref r0_83), .unset, .unset, .unset, .unset, .unset, .unset, .unset]
def la0_9 (p0 : Int32) (q1 : Int64) (q2 : Int64) (q3 : Int64) (r0_83 : Addr) (r0_96 : Addr) : Array Slot := #[.val (.int p0), .val (.long q1), .second, .val (.long q2), .second, .val (.long q3), .second, .val (.int (0 : Int32)), .val (.int (v0_10 p0 q1 q2 q3)), .val (.int (v0_17 p0 q1 q2 q3)), .val (.int (v0_25 p0 q1 q2 q3)), .val (.int (v0_40 p0 q1 q2 q3)), .val (.int (v0_56 p0 q1 q2 q3)), .val (.int (v0_73 p0 q1 q2 q3)), .val (.ref r0_83), .val (.ref r0_96), .unset, .unset, .unset, .unset, .unset, .unset]
def la0_10 (p0 : Int32) (q1 : Int64) (q2 : Int64) (q3 : Int64) (r0_83 : Addr) (r0_96 : Addr) : Array Slot := #[.val (.int p0), .val (.long q1), .second, .val (.long q2), .second, .val (.long q3), .second, .val (.int (0 : Int32)), .val (.int (v0_10 p0 q1 q2 q3)), .val (.int (v0_17 p0 q1 q2 q3)), .val (.int (v0_25 p0 q1 q2 q3)), .val (.int (v0_40 p0 q1 q2 q3)), .val (.int (v0_56 p0 q1 q2 q3)), .val (.int (v0_73 p0 q1 q2 q3)), .val (.ref r0_83), .val (.ref r0_96), .val (.int (0 : Int32)), .unset, .unset, .unset, .unset, .unset]
def la0_11 (p0 : Int32) (q1 : Int64) (q2 : Int64) (q3 : Int64) (r0_83 : Addr) (r0_96 : Addr) : Array Slot := #[.val (.int p0), .val (.long q1), .second, .val (.long q2), .second, .val (.long q3), .second, .val (.int (0 : Int32)), .val (.int (v0_10 p0 q1 q2 q3)), .val (.int (v0_17 p0 q1 q2 q3)), .val (.int (v0_25 p0 q1 q2 q3)), .val (.int (v0_40 p0 q1 q2 q3)), .val (.int (v0_56 p0 q1 q2 q3)), .val (.int (v0_73 p0 q1 q2 q3)), .val (.ref r0_83), .val (.ref r0_96), .val (.int (0 : Int32)), .val (.int (0 : Int32)), .unset, .unset, .unset, .unset]
def la0_12 (p0 : Int32) (q1 : Int64) (q2 : Int64) (q3 : Int64) (r0_83 : Addr) (r0_96 : Addr) : Array Slot := #[.val (.int p0), .val (.long q1), .second, .val (.long q2), .second, .val (.long q3), .second, .val (.int (0 : Int32)), .val (.int (v0_10 p0 q1 q2 q3)), .val (.int (v0_17 p0 q1 q2 q3)), .val (.int (v0_25 p0 q1 q2 q3)), .val (.int (v0_40 p0 q1 q2 q3)), .val (.int (v0_56 p0 q1 q2 q3)), .val (.int (v0_73 p0 q1 q2 q3)), .val (.ref r0_83), .val (.ref r0_96), .val (.int (0 : Int32)), .val (.int (0 : Int32)), .val (.int (0 : Int32)), .unset, .unset, .unset]
def la0_13 (p0 : Int32) (q1 : Int64) (q2 : Int64) (q3 : Int64) (r0_83 : Addr) (r0_96 : Addr) : Array Slot := #[.val (.int p0), .val (.long q1), .second, .val (.long q2), .second, .val (.long q3), .second, .val (.int (0 : Int32)), .val (.int (v0_10 p0 q1 q2 q3)), .val (.int (v0_17 p0 q1 q2 q3)), .val (.int (v0_25 p0 q1 q2 q3)), .val (.int (v0_40 p0 q1 q2 q3)), .val (.int (v0_56 p0 q1 q2 q3)), .val (.int (v0_73 p0 q1 q2 q3)), .val (.ref r0_83), .val (.ref r0_96), .val (.int (0 : Int32)), .val (.int (0 : Int32)), .val (.int (0 : Int32)), .val (.int (0 : Int32)), .unset, .unset]
def la0_14 (p0 : Int32) (q1 : Int64) (q2 : Int64) (q3 : Int64) (r0_83 : Addr) (r0_96 : Addr) : Array Slot := #[.val (.int p0), .val (.long q1), .second, .val (.long q2), .second, .val (.long q3), .second, .val (.int (0 : Int32)), .val (.int (v0_10 p0 q1 q2 q3)), .val (.int (v0_17 p0 q1 q2 q3)), .val (.int (v0_25 p0 q1 q2 q3)), .val (.int (v0_40 p0 q1 q2 q3)), .val (.int (v0_56 p0 q1 q2 q3)), .val (.int (v0_73 p0 q1 q2 q3)), .val (.ref r0_83), .val (.ref r0_96), .val (.int (0 : Int32)), .val (.int (0 : Int32)), .val (.int (0 : Int32)), .val (.int (0 : Int32)), .val (.int f2_0), .unset]
def la0_15 (p0 : Int32) (q1 : Int64) (q2 : Int64) (q3 : Int64) (r0_83 : Addr) (r0_96 : Addr) : Array Slot := #[.val (.int p0), .val (.long q1), .second, .val (.long q2), .second, .val (.long q3), .second, .val (.int (0 : Int32)), .val (.int (v0_10 p0 q1 q2 q3)), .val (.int (v0_17 p0 q1 q2 q3)), .val (.int (v0_25 p0 q1 q2 q3)), .val (.int (v0_40 p0 q1 q2 q3)), .val (.int (v0_56 p0 q1 q2 q3)), .val (.int (v0_73 p0 q1 q2 q3)), .val (.ref r0_83), .val (.ref r0_96), .val (.int (0 : Int32)), .val (.int (0 : Int32)), .val (.int (0 : Int32)), .val (.int (0 : Int32)), .val (.int f2_0), .val (.int f2_0)]
def la0_16 (p0 : Int32) (q1 : Int64) (q2 : Int64) (q3 : Int64) : Array Slot := #[.val (.int p0), .val (.long q1), .second, .val (.long q2), .second, .val (.long q3), .second, .val (.int (1 : Int32)), .val (.int (v0_10 p0 q1 q2 q3)), .val (.int (v0_17 p0 q1 q2 q3)), .val (.int (v0_25 p0 q1 q2 q3)), .val (.int (v0_40 p0 q1 q2 q3)), .val (.int (v0_56 p0 q1 q2 q3)), .val (.int (v0_73 p0 q1 q2 q3)), .unset, .unset, .unset, .unset, .unset, .unset, .unset, .unset]
def la0_17 (p0 : Int32) (q1 : Int64) (q2 : Int64) (q3 : Int64) (r0_83 : Addr) : Array Slot := #[.val (.int p0), .val (.long q1), .second, .val (.long q2), .second, .val (.long q3), .second, .val (.int (1 : Int32)), .val (.int (v0_10 p0 q1 q2 q3)), .val (.int (v0_17 p0 q1 q2 q3)), .val (.int (v0_25 p0 q1 q2 q3)), .val (.int (v0_40 p0 q1 q2 q3)), .val (.int (v0_56 p0 q1 q2 q3)), .val (.int (v0_73 p0 q1 q2 q3)), .val (.ref r0_83), .unset, .unset, .unset, .unset, .unset, .unset, .unset]
def la0_18 (p0 : Int32) (q1 : Int64) (q2 : Int64) (q3 : Int64) (r0_83 : Addr) (r0_96 : Addr) : Array Slot := #[.val (.int p0), .val (.long q1), .second, .val (.long q2), .second, .val (.long q3), .second, .val (.int (1 : Int32)), .val (.int (v0_10 p0 q1 q2 q3)), .val (.int (v0_17 p0 q1 q2 q3)), .val (.int (v0_25 p0 q1 q2 q3)), .val (.int (v0_40 p0 q1 q2 q3)), .val (.int (v0_56 p0 q1 q2 q3)), .val (.int (v0_73 p0 q1 q2 q3)), .val (.ref r0_83), .val (.ref r0_96), .unset, .unset, .unset, .unset, .unset, .unset]
def la0_19 (p0 : Int32) (q1 : Int64) (q2 : Int64) (q3 : Int64) (r0_83 : Addr) (r0_96 : Addr) : Array Slot := #[.val (.int p0), .val (.long q1), .second, .val (.long q2), .second, .val (.long q3), .second, .val (.int (1 : Int32)), .val (.int (v0_10 p0 q1 q2 q3)), .val (.int (v0_17 p0 q1 q2 q3)), .val (.int (v0_25 p0 q1 q2 q3)), .val (.int (v0_40 p0 q1 q2 q3)), .val (.int (v0_56 p0 q1 q2 q3)), .val (.int (v0_73 p0 q1 q2 q3)), .val (.ref r0_83), .val (.ref r0_96), .val (.int (0 : Int32)), .unset, .unset, .unset, .unset, .unset]
def la0_20 (p0 : Int32) (q1 : Int64) (q2 : Int64) (q3 : Int64) (r0_83 : Addr) (r0_96 : Addr) : Array Slot := #[.val (.int p0), .val (.long q1), .second, .val (.long q2), .second, .val (.long q3), .second, .val (.int (1 : Int32)), .val (.int (v0_10 p0 q1 q2 q3)), .val (.int (v0_17 p0 q1 q2 q3)), .val (.int (v0_25 p0 q1 q2 q3)), .val (.int (v0_40 p0 q1 q2 q3)), .val (.int (v0_56 p0 q1 q2 q3)), .val (.int (v0_73 p0 q1 q2 q3)), .val (.ref r0_83), .val (.ref r0_96), .val (.int (0 : Int32)), .val (.int (0 : Int32)), .unset, .unset, .unset, .unset]
def la0_21 (p0 : Int32) (q1 : Int64) (q2 : Int64) (q3 : Int64) (r0_83 : Addr) (r0_96 : Addr) : Array Slot := #[.val (.int p0), .val (.long q1), .second, .val (.long q2), .second, .val (.long q3), .second, .val (.int (1 : Int32)), .val (.int (v0_10 p0 q1 q2 q3)), .val (.int (v0_17 p0 q1 q2 q3)), .val (.int (v0_25 p0 q1 q2 q3)), .val (.int (v0_40 p0 q1 q2 q3)), .val (.int (v0_56 p0 q1 q2 q3)), .val (.int (v0_73 p0 q1 q2 q3)), .val (.ref r0_83), .val (.ref r0_96), .val (.int (0 : Int32)), .val (.int (0 : Int32)), .val (.int (v0_156 p0 q1 q2 q3)), .unset, .unset, .unset]
def la0_22 (p0 : Int32) (q1 : Int64) (q2 : Int64) (q3 : Int64) (r0_83 : Addr) (r0_96 : Addr) : Array Slot := #[.val (.int p0), .val (.long q1), .second, .val (.long q2), .second, .val (.long q3), .second, .val (.int (1 : Int32)), .val (.int (v0_10 p0 q1 q2 q3)), .val (.int (v0_17 p0 q1 q2 q3)), .val (.int (v0_25 p0 q1 q2 q3)), .val (.int (v0_40 p0 q1 q2 q3)), .val (.int (v0_56 p0 q1 q2 q3)), .val (.int (v0_73 p0 q1 q2 q3)), .val (.ref r0_83), .val (.ref r0_96), .val (.int (0 : Int32)), .val (.int (0 : Int32)), .val (.int (v0_156 p0 q1 q2 q3)), .val (.int (v0_156 p0 q1 q2 q3)), .unset, .unset]
def la0_23 (p0 : Int32) (q1 : Int64) (q2 : Int64) (q3 : Int64) (r0_83 : Addr) (r0_96 : Addr) : Array Slot := #[.val (.int p0), .val (.long q1), .second, .val (.long q2), .second, .val (.long q3), .second, .val (.int (1 : Int32)), .val (.int (v0_10 p0 q1 q2 q3)), .val (.int (v0_17 p0 q1 q2 q3)), .val (.int (v0_25 p0 q1 q2 q3)), .val (.int (v0_40 p0 q1 q2 q3)), .val (.int (v0_56 p0 q1 q2 q3)), .val (.int (v0_73 p0 q1 q2 q3)), .val (.ref r0_83), .val (.ref r0_96), .val (.int (0 : Int32)), .val (.int (0 : Int32)), .val (.int (v0_156 p0 q1 q2 q3)), .val (.int (v0_156 p0 q1 q2 q3)), .val (.int (v0_189 p0 q1 q2 q3)), .unset]
def la0_24 (p0 : Int32) (q1 : Int64) (q2 : Int64) (q3 : Int64) (r0_83 : Addr) (r0_96 : Addr) : Array Slot := #[.val (.int p0), .val (.long q1), .second, .val (.long q2), .second, .val (.long q3), .second, .val (.int (1 : Int32)), .val (.int (v0_10 p0 q1 q2 q3)), .val (.int (v0_17 p0 q1 q2 q3)), .val (.int (v0_25 p0 q1 q2 q3)), .val (.int (v0_40 p0 q1 q2 q3)), .val (.int (v0_56 p0 q1 q2 q3)), .val (.int (v0_73 p0 q1 q2 q3)), .val (.ref r0_83), .val (.ref r0_96), .val (.int (0 : Int32)), .val (.int (0 : Int32)), .val (.int (v0_156 p0 q1 q2 q3)), .val (.int (v0_156 p0 q1 q2 q3)), .val (.int (v0_189 p0 q1 q2 q3)), .val (.int (v0_198 p0 q1 q2 q3))]
def la0_25 (p0 : Int32) (q1 : Int64) (q2 : Int64) (q3 : Int64) : Array Slot := #[.val (.int p0), .val (.long q1), .second, .val (.long q2), .second, .val (.long q3), .second, .val (.int (2 : Int32)), .val (.int (v0_10 p0 q1 q2 q3)), .val (.int (v0_17 p0 q1 q2 q3)), .val (.int (v0_25 p0 q1 q2 q3)), .val (.int (v0_40 p0 q1 q2 q3)), .val (.int (v0_56 p0 q1 q2 q3)), .val (.int (v0_73 p0 q1 q2 q3)), .unset, .unset, .unset, .unset, .unset, .unset, .unset, .unset]
def la0_26 (p0 : Int32) (q1 : Int64) (q2 : Int64) (q3 : Int64) (r0_83 : Addr) : Array Slot := #[.val (.int p0), .val (.long q1), .second, .val (.long q2), .second, .val (.long q3), .second, .val (.int (2 : Int32)), .val (.int (v0_10 p0 q1 q2 q3)), .val (.int (v0_17 p0 q1 q2 q3)), .val (.int (v0_25 p0 q1 q2 q3)), .val (.int (v0_40 p0 q1 q2 q3)), .val (.int (v0_56 p0 q1 q2 q3)), .val (.int (v0_73 p0 q1 q2 q3)), .val (.ref r0_83), .unset, .unset, .unset, .unset, .unset, .unset, .unset]
def la0_27 (p0 : Int32) (q1 : Int64) (q2 : Int64) (q3 : Int64) (r0_83 : Addr) (r0_96 : Addr) : Array Slot := #[.val (.int p0), .val (.long q1), .second, .val (.long q2), .second, .val (.long q3), .second, .val (.int (2 : Int32)), .val (.int (v0_10 p0 q1 q2 q3)), .val (.int (v0_17 p0 q1 q2 q3)), .val (.int (v0_25 p0 q1 q2 q3)), .val (.int (v0_40 p0 q1 q2 q3)), .val (.int (v0_56 p0 q1 q2 q3)), .val (.int (v0_73 p0 q1 q2 q3)), .val (.ref r0_83), .val (.ref r0_96), .unset, .unset, .unset, .unset, .unset, .unset]
def la0_28 (p0 : Int32) (q1 : Int64) (q2 : Int64) (q3 : Int64) (r0_83 : Addr) (r0_96 : Addr) : Array Slot := #[.val (.int p0), .val (.long q1), .second, .val (.long q2), .second, .val (.long q3), .second, .val (.int (2 : Int32)), .val (.int (v0_10 p0 q1 q2 q3)), .val (.int (v0_17 p0 q1 q2 q3)), .val (.int (v0_25 p0 q1 q2 q3)), .val (.int (v0_40 p0 q1 q2 q3)), .val (.int (v0_56 p0 q1 q2 q3)), .val (.int (v0_73 p0 q1 q2 q3)), .val (.ref r0_83), .val (.ref r0_96), .val (.int (0 : Int32)), .unset, .unset, .unset, .unset, .unset]
def la0_29 (p0 : Int32) (q1 : Int64) (q2 : Int64) (q3 : Int64) (r0_83 : Addr) (r0_96 : Addr) : Array Slot := #[.val (.int p0), .val (.long q1), .second, .val (.long q2), .second, .val (.long q3), .second, .val (.int (2 : Int32)), .val (.int (v0_10 p0 q1 q2 q3)), .val (.int (v0_17 p0 q1 q2 q3)), .val (.int (v0_25 p0 q1 q2 q3)), .val (.int (v0_40 p0 q1 q2 q3)), .val (.int (v0_56 p0 q1 q2 q3)), .val (.int (v0_73 p0 q1 q2 q3)), .val (.ref r0_83), .val (.ref r0_96), .val (.int (0 : Int32)), .val (.int (v0_137 p0 q1 q2 q3)), .unset, .unset, .unset, .unset]
def la0_30 (p0 : Int32) (q1 : Int64) (q2 : Int64) (q3 : Int64) (r0_83 : Addr) (r0_96 : Addr) : Array Slot := #[.val (.int p0), .val (.long q1), .second, .val (.long q2), .second, .val (.long q3), .second, .val (.int (2 : Int32)), .val (.int (v0_10 p0 q1 q2 q3)), .val (.int (v0_17 p0 q1 q2 q3)), .val (.int (v0_25 p0 q1 q2 q3)), .val (.int (v0_40 p0 q1 q2 q3)), .val (.int (v0_56 p0 q1 q2 q3)), .val (.int (v0_73 p0 q1 q2 q3)), .val (.ref r0_83), .val (.ref r0_96), .val (.int (0 : Int32)), .val (.int (v0_137 p0 q1 q2 q3)), .val (.int (v0_156 p0 q1 q2 q3)), .unset, .unset, .unset]
def la0_31 (p0 : Int32) (q1 : Int64) (q2 : Int64) (q3 : Int64) (r0_83 : Addr) (r0_96 : Addr) : Array Slot := #[.val (.int p0), .val (.long q1), .second, .val (.long q2), .second, .val (.long q3), .second, .val (.int (2 : Int32)), .val (.int (v0_10 p0 q1 q2 q3)), .val (.int (v0_17 p0 q1 q2 q3)), .val (.int (v0_25 p0 q1 q2 q3)), .val (.int (v0_40 p0 q1 q2 q3)), .val (.int (v0_56 p0 q1 q2 q3)), .val (.int (v0_73 p0 q1 q2 q3)), .val (.ref r0_83), .val (.ref r0_96), .val (.int (0 : Int32)), .val (.int (v0_137 p0 q1 q2 q3)), .val (.int (v0_156 p0 q1 q2 q3)), .val (.int (v0_180 p0 q1 q2 q3)), .unset, .unset]
def la0_32 (p0 : Int32) (q1 : Int64) (q2 : Int64) (q3 : Int64) (r0_83 : Addr) (r0_96 : Addr) : Array Slot := #[.val (.int p0), .val (.long q1), .second, .val (.long q2), .second, .val (.long q3), .second, .val (.int (2 : Int32)), .val (.int (v0_10 p0 q1 q2 q3)), .val (.int (v0_17 p0 q1 q2 q3)), .val (.int (v0_25 p0 q1 q2 q3)), .val (.int (v0_40 p0 q1 q2 q3)), .val (.int (v0_56 p0 q1 q2 q3)), .val (.int (v0_73 p0 q1 q2 q3)), .val (.ref r0_83), .val (.ref r0_96), .val (.int (0 : Int32)), .val (.int (v0_137 p0 q1 q2 q3)), .val (.int (v0_156 p0 q1 q2 q3)), .val (.int (v0_180 p0 q1 q2 q3)), .val (.int (v0_189x p0 q1 q2 q3)), .unset]
def la0_33 (p0 : Int32) (q1 : Int64) (q2 : Int64) (q3 : Int64) (r0_83 : Addr) (r0_96 : Addr) : Array Slot := #[.val (.int p0), .val (.long q1), .second, .val (.long q2), .second, .val (.long q3), .second, .val (.int (2 : Int32)), .val (.int (v0_10 p0 q1 q2 q3)), .val (.int (v0_17 p0 q1 q2 q3)), .val (.int (v0_25 p0 q1 q2 q3)), .val (.int (v0_40 p0 q1 q2 q3)), .val (.int (v0_56 p0 q1 q2 q3)), .val (.int (v0_73 p0 q1 q2 q3)), .val (.ref r0_83), .val (.ref r0_96), .val (.int (0 : Int32)), .val (.int (v0_137 p0 q1 q2 q3)), .val (.int (v0_156 p0 q1 q2 q3)), .val (.int (v0_180 p0 q1 q2 q3)), .val (.int (v0_189x p0 q1 q2 q3)), .val (.int (v0_198x p0 q1 q2 q3))]
def la0_34 (p0 : Int32) (q1 : Int64) (q2 : Int64) (q3 : Int64) : Array Slot := #[.val (.int p0), .val (.long q1), .second, .val (.long q2), .second, .val (.long q3), .second, .val (.int (3 : Int32)), .val (.int (v0_10 p0 q1 q2 q3)), .val (.int (v0_17 p0 q1 q2 q3)), .val (.int (v0_25 p0 q1 q2 q3)), .val (.int (v0_40 p0 q1 q2 q3)), .val (.int (v0_56 p0 q1 q2 q3)), .val (.int (v0_73 p0 q1 q2 q3)), .unset, .unset, .unset, .unset, .unset, .unset, .unset, .unset]
def la0_35 (p0 : Int32) (q1 : Int64) (q2 : Int64) (q3 : Int64) (r0_83 : Addr) : Array Slot := #[.val (.int p0), .val (.long q1), .second, .val (.long q2), .second, .val (.long q3), .second, .val (.int (3 : Int32)), .val (.int (v0_10 p0 q1 q2 q3)), .val (.int (v0_17 p0 q1 q2 q3)), .val (.int (v0_25 p0 q1 q2 q3)), .val (.int (v0_40 p0 q1 q2 q3)), .val (.int (v0_56 p0 q1 q2 q3)), .val (.int (v0_73 p0 q1 q2 q3)), .val (.ref r0_83), .unset, .unset, .unset, .unset, .unset, .unset, .unset]
def la0_36 (p0 : Int32) (q1 : Int64) (q2 : Int64) (q3 : Int64) (r0_83 : Addr) (r0_96 : Addr) : Array Slot := #[.val (.int p0), .val (.long q1), .second, .val (.long q2), .second, .val (.long q3), .second, .val (.int (3 : Int32)), .val (.int (v0_10 p0 q1 q2 q3)), .val (.int (v0_17 p0 q1 q2 q3)), .val (.int (v0_25 p0 q1 q2 q3)), .val (.int (v0_40 p0 q1 q2 q3)), .val (.int (v0_56 p0 q1 q2 q3)), .val (.int (v0_73 p0 q1 q2 q3)), .val (.ref r0_83), .val (.ref r0_96), .unset, .unset, .unset, .unset, .unset, .unset]
def la0_37 (p0 : Int32) (q1 : Int64) (q2 : Int64) (q3 : Int64) (r0_83 : Addr) (r0_96 : Addr) : Array Slot := #[.val (.int p0), .val (.long q1), .second, .val (.long q2), .second, .val (.long q3), .second, .val (.int (3 : Int32)), .val (.int (v0_10 p0 q1 q2 q3)), .val (.int (v0_17 p0 q1 q2 q3)), .val (.int (v0_25 p0 q1 q2 q3)), .val (.int (v0_40 p0 q1 q2 q3)), .val (.int (v0_56 p0 q1 q2 q3)), .val (.int (v0_73 p0 q1 q2 q3)), .val (.ref r0_83), .val (.ref r0_96), .val (.int (v0_118 p0 q1 q2 q3)), .unset, .unset, .unset, .unset, .unset]
def la0_38 (p0 : Int32) (q1 : Int64) (q2 : Int64) (q3 : Int64) (r0_83 : Addr) (r0_96 : Addr) : Array Slot := #[.val (.int p0), .val (.long q1), .second, .val (.long q2), .second, .val (.long q3), .second, .val (.int (3 : Int32)), .val (.int (v0_10 p0 q1 q2 q3)), .val (.int (v0_17 p0 q1 q2 q3)), .val (.int (v0_25 p0 q1 q2 q3)), .val (.int (v0_40 p0 q1 q2 q3)), .val (.int (v0_56 p0 q1 q2 q3)), .val (.int (v0_73 p0 q1 q2 q3)), .val (.ref r0_83), .val (.ref r0_96), .val (.int (v0_118 p0 q1 q2 q3)), .val (.int (v0_137 p0 q1 q2 q3)), .unset, .unset, .unset, .unset]
def la0_39 (p0 : Int32) (q1 : Int64) (q2 : Int64) (q3 : Int64) (r0_83 : Addr) (r0_96 : Addr) : Array Slot := #[.val (.int p0), .val (.long q1), .second, .val (.long q2), .second, .val (.long q3), .second, .val (.int (3 : Int32)), .val (.int (v0_10 p0 q1 q2 q3)), .val (.int (v0_17 p0 q1 q2 q3)), .val (.int (v0_25 p0 q1 q2 q3)), .val (.int (v0_40 p0 q1 q2 q3)), .val (.int (v0_56 p0 q1 q2 q3)), .val (.int (v0_73 p0 q1 q2 q3)), .val (.ref r0_83), .val (.ref r0_96), .val (.int (v0_118 p0 q1 q2 q3)), .val (.int (v0_137 p0 q1 q2 q3)), .val (.int (v0_156 p0 q1 q2 q3)), .unset, .unset, .unset]
def la0_40 (p0 : Int32) (q1 : Int64) (q2 : Int64) (q3 : Int64) (r0_83 : Addr) (r0_96 : Addr) : Array Slot := #[.val (.int p0), .val (.long q1), .second, .val (.long q2), .second, .val (.long q3), .second, .val (.int (3 : Int32)), .val (.int (v0_10 p0 q1 q2 q3)), .val (.int (v0_17 p0 q1 q2 q3)), .val (.int (v0_25 p0 q1 q2 q3)), .val (.int (v0_40 p0 q1 q2 q3)), .val (.int (v0_56 p0 q1 q2 q3)), .val (.int (v0_73 p0 q1 q2 q3)), .val (.ref r0_83), .val (.ref r0_96), .val (.int (v0_118 p0 q1 q2 q3)), .val (.int (v0_137 p0 q1 q2 q3)), .val (.int (v0_156 p0 q1 q2 q3)), .val (.int (v0_180x p0 q1 q2 q3)), .unset, .unset]
def la0_41 (p0 : Int32) (q1 : Int64) (q2 : Int64) (q3 : Int64) (r0_83 : Addr) (r0_96 : Addr) : Array Slot := #[.val (.int p0), .val (.long q1), .second, .val (.long q2), .second, .val (.long q3), .second, .val (.int (3 : Int32)), .val (.int (v0_10 p0 q1 q2 q3)), .val (.int (v0_17 p0 q1 q2 q3)), .val (.int (v0_25 p0 q1 q2 q3)), .val (.int (v0_40 p0 q1 q2 q3)), .val (.int (v0_56 p0 q1 q2 q3)), .val (.int (v0_73 p0 q1 q2 q3)), .val (.ref r0_83), .val (.ref r0_96), .val (.int (v0_118 p0 q1 q2 q3)), .val (.int (v0_137 p0 q1 q2 q3)), .val (.int (v0_156 p0 q1 q2 q3)), .val (.int (v0_180x p0 q1 q2 q3)), .val (.int (v0_189xx p0 q1 q2 q3)), .unset]
def la0_42 (p0 : Int32) (q1 : Int64) (q2 : Int64) (q3 : Int64) (r0_83 : Addr) (r0_96 : Addr) : Array Slot := #[.val (.int p0), .val (.long q1), .second, .val (.long q2), .second, .val (.long q3), .second, .val (.int (3 : Int32)), .val (.int (v0_10 p0 q1 q2 q3)), .val (.int (v0_17 p0 q1 q2 q3)), .val (.int (v0_25 p0 q1 q2 q3)), .val (.int (v0_40 p0 q1 q2 q3)), .val (.int (v0_56 p0 q1 q2 q3)), .val (.int (v0_73 p0 q1 q2 q3)), .val (.ref r0_83), .val (.ref r0_96), .val (.int (v0_118 p0 q1 q2 q3)), .val (.int (v0_137 p0 q1 q2 q3)), .val (.int (v0_156 p0 q1 q2 q3)), .val (.int (v0_180x p0 q1 q2 q3)), .val (.int (v0_189xx p0 q1 q2 q3)), .val (.int (v0_198xx p0 q1 q2 q3))]
def la0_43 (p0 : Int32) (q1 : Int64) (q2 : Int64) (q3 : Int64) : Array Slot := #[.val (.int p0), .val (.long q1), .second, .val (.long q2), .second, .val (.long q3), .second, .unset, .unset, .unset, .unset, .unset, .unset, .unset, .unset, .unset, .unset, .unset, .unset, .unset, .unset, .unset]
def f0_0 (p0 : Int32) (q1 : Int64) (q2 : Int64) (q3 : Int64) : Int32 := (if f2_0 = (0 : Int32) then (1 : Int32) else (0 : Int32))
def f0_1 (p0 : Int32) (q1 : Int64) (q2 : Int64) (q3 : Int64) : Int32 := (if (v0_189 p0 q1 q2 q3) = (v0_212_s0 p0 q1 q2 q3) then (if (v0_198 p0 q1 q2 q3) = (v0_227_s0 p0 q1 q2 q3) then (1 : Int32) else (0 : Int32)) else (0 : Int32))
def f0_2 (p0 : Int32) (q1 : Int64) (q2 : Int64) (q3 : Int64) : Int32 := (if (v0_189x p0 q1 q2 q3) = (v0_212_s0x p0 q1 q2 q3) then (if (v0_198x p0 q1 q2 q3) = (v0_227_s0x p0 q1 q2 q3) then (1 : Int32) else (0 : Int32)) else (0 : Int32))
def f0_3 (p0 : Int32) (q1 : Int64) (q2 : Int64) (q3 : Int64) : Int32 := (if (v0_189xx p0 q1 q2 q3) = (v0_212_s0xx p0 q1 q2 q3) then (if (v0_198xx p0 q1 q2 q3) = (v0_227_s0xx p0 q1 q2 q3) then (1 : Int32) else (0 : Int32)) else (0 : Int32))
theorem own_rem (x y : Int32) (d : Int) (hy : y.toInt = d) : (0 ≤ x.toInt → (x - (x / y) * y).toInt = x.toInt % d) ∧ (x.toInt < 0 → (x - (x / y) * y).toInt = -((-x.toInt) % d)) := by
  rw [rem_toInt, hy]
  exact tr _ _
theorem own_n0 : nar .boolean (0 : Int32) = 0 := by decide
theorem own_n1 : nar .boolean (1 : Int32) = 1 := by decide
theorem own_lt (x y : Int32) : x < y ↔ x.toInt < y.toInt := Int32.lt_iff_toInt_lt
theorem own_eq (x y : Int32) : x = y ↔ x.toInt = y.toInt := Int32.toInt_inj.symm
theorem own_four (x : Int32) : (x &&& (3 : Int32)) = 0 ∨ (x &&& (3 : Int32)) = 1 ∨ (x &&& (3 : Int32)) = 2 ∨ (x &&& (3 : Int32)) = 3 := by
  have h := c_mask x 3 2 (by decide) (by decide)
  have e0 : (0 : Int32).toInt = 0 := by decide
  have e1 : (1 : Int32).toInt = 1 := by decide
  have e2 : (2 : Int32).toInt = 2 := by decide
  have e3 : (3 : Int32).toInt = 3 := by decide
  simp only [own_eq, e0, e1, e2, e3, h]
  omega
theorem own_tri (a b : Int32) : (a < b ∧ ¬ b < a ∧ ¬ a = b ∧ ¬ b = a ∧ f3 a b = -1) ∨ (a = b ∧ f3 a b = 0) ∨ (b < a ∧ ¬ a < b ∧ ¬ a = b ∧ ¬ b = a ∧ f3 a b = 1) := by
  unfold f3
  by_cases h1 : a < b
  · have h1' := (own_lt a b).mp h1
    refine Or.inl ⟨h1, ?_, ?_, ?_, if_pos h1⟩
    · rw [own_lt]; omega
    · rw [own_eq]; omega
    · rw [own_eq]; omega
  · by_cases h2 : b < a
    · have h2' := (own_lt b a).mp h2
      refine Or.inr (Or.inr ⟨h2, h1, ?_, ?_, by rw [if_neg h1, if_pos h2]⟩)
      · rw [own_eq]; omega
      · rw [own_eq]; omega
    · have h3 : a = b := by
        rw [own_lt] at h1 h2
        rw [own_eq]
        omega
      exact Or.inr (Or.inl ⟨h3, by rw [if_neg h1, if_neg h2]⟩)
theorem own_m1 : ((-1 : Int32) < 0) = True := by decide
theorem own_m2 : ((0 : Int32) < -1) = False := by decide
theorem own_m3 : ((-1 : Int32) = 0) = False := by decide
theorem own_m4 : ((1 : Int32) < 0) = False := by decide
theorem own_m5 : ((0 : Int32) < 1) = True := by decide
theorem own_m6 : ((1 : Int32) = 0) = False := by decide
theorem own_m7 : ((0 : Int32) < 0) = False := by decide
theorem own_L1 (a b : Int32) : f2_1 a b = (if f3 a b < (0 : Int32) then (1 : Int32) else 0) ∧ f2_1 b a = (if (0 : Int32) < f3 a b then (1 : Int32) else 0) := by
  unfold f2_1
  rcases own_tri a b with ⟨h1, h2, h3, h4, h5⟩ | ⟨rfl, h5⟩ | ⟨h1, h2, h3, h4, h5⟩
  · simp only [h1, h2, h3, h4, h5, own_m1, own_m2, own_n0, own_n1, if_true, if_false, and_self]
  · simp only [h5, own_m7, own_n0, if_true, if_false, and_self]
  · simp only [h1, h2, h3, h4, h5, own_m4, own_m5, own_n0, own_n1, if_true, if_false, and_self]
def own_t2 (s1 s0 : Int32) : Int32 := if s1 = 0 then s0 else s1
theorem own_L2 (a b a' b' : Int32) : f2_2 a a' b b' = (if own_t2 (f3 a' b') (f3 a b) < (0 : Int32) then (1 : Int32) else 0) ∧ f2_2 b b' a a' = (if (0 : Int32) < own_t2 (f3 a' b') (f3 a b) then (1 : Int32) else 0) := by
  have q := own_L1 a b
  unfold f2_1 at q
  unfold f2_2 own_t2
  rcases own_tri a' b' with ⟨h1, h2, h3, h4, h5⟩ | ⟨rfl, h5⟩ | ⟨h1, h2, h3, h4, h5⟩
  · simp only [h1, h2, h3, h4, h5, own_m1, own_m2, own_m3, own_n0, own_n1, if_true, if_false, and_self]
  · simp only [h5, if_true]
    exact q
  · simp only [h1, h2, h3, h4, h5, own_m4, own_m5, own_m6, own_n0, own_n1, if_true, if_false, and_self]
theorem own_L3 (a b a' b' a2 b2 : Int32) : f2_3 a a' a2 b b' b2 = (if own_t2 (f3 a2 b2) (own_t2 (f3 a' b') (f3 a b)) < (0 : Int32) then (1 : Int32) else 0) ∧ f2_3 b b' b2 a a' a2 = (if (0 : Int32) < own_t2 (f3 a2 b2) (own_t2 (f3 a' b') (f3 a b)) then (1 : Int32) else 0) := by
  have q := own_L2 a b a' b'
  unfold f2_2 at q
  unfold f2_3
  rcases own_tri a2 b2 with ⟨h1, h2, h3, h4, h5⟩ | ⟨rfl, h5⟩ | ⟨h1, h2, h3, h4, h5⟩
  · rw [show own_t2 (f3 a2 b2) (own_t2 (f3 a' b') (f3 a b)) = -1 from by rw [h5]; unfold own_t2; rw [if_neg (by decide)]]
    simp only [h1, h2, h3, h4, own_m1, own_m2, own_n0, own_n1, if_true, if_false, and_self]
  · rw [show own_t2 (f3 a2 a2) (own_t2 (f3 a' b') (f3 a b)) = own_t2 (f3 a' b') (f3 a b) from by rw [h5]; unfold own_t2; rw [if_pos rfl]]
    simp only [if_true]
    exact q
  · rw [show own_t2 (f3 a2 b2) (own_t2 (f3 a' b') (f3 a b)) = 1 from by rw [h5]; unfold own_t2; rw [if_neg (by decide)]]
    simp only [h1, h2, h3, h4, own_m4, own_m5, own_n0, own_n1, if_true, if_false, and_self]
theorem own_plain_0 (p : Int32) (x y z : Int64) : f0_0 p x y z = 1 := by
  unfold f0_0 f2_0
  rw [own_n0, if_pos rfl]
theorem own_plain_1 (p : Int32) (x y z : Int64) : f0_1 p x y z = 1 := by
  have q := own_L1 (v0_10 p x y z) (v0_40 p x y z)
  unfold f0_1
  rw [if_pos (show v0_189 p x y z = v0_212_s0 p x y z from q.1), if_pos (show v0_198 p x y z = v0_227_s0 p x y z from q.2)]
theorem own_plain_2 (p : Int32) (x y z : Int64) : f0_2 p x y z = 1 := by
  have q := own_L2 (v0_10 p x y z) (v0_40 p x y z) (v0_17 p x y z) (v0_56 p x y z)
  unfold f0_2
  rw [if_pos (show v0_189x p x y z = v0_212_s0x p x y z from q.1), if_pos (show v0_198x p x y z = v0_227_s0x p x y z from q.2)]
theorem own_plain_3 (p : Int32) (x y z : Int64) : f0_3 p x y z = 1 := by
  have q := own_L3 (v0_10 p x y z) (v0_40 p x y z) (v0_17 p x y z) (v0_56 p x y z) (v0_25 p x y z) (v0_73 p x y z)
  unfold f0_3
  rw [if_pos (show v0_189xx p x y z = v0_212_s0xx p x y z from q.1), if_pos (show v0_198xx p x y z = v0_227_s0xx p x y z from q.2)]
theorem ef_0 (m : MethodId) (x0 : Int32) (x1 : Int64) (x2 : Int64) (x3 : Int64) : entryFrame m #[(.int x0), (.long x1), (.long x2), (.long x3)] maxLocals = mkF m 0 #[.val (.int x0), .val (.long x1), .second, .val (.long x2), .second, .val (.long x3), .second, .unset, .unset, .unset, .unset, .unset, .unset, .unset, .unset, .unset, .unset, .unset, .unset, .unset, .unset, .unset] [] := by first | (simp [entryFrame, mkF, argsToLocals, Value.category, maxLocals]; done) | rfl
def Q0 (Z : State) (p0 : Int32) (q1 : Int64) (q2 : Int64) (q3 : Int64) (h0 : Heap) (n0 : Nat) (v : Option Value) (h : Heap) (L : List Loc) : Prop := v = some (.int 1) ∧ Fr n0 L
set_option maxRecDepth 65536 in
set_option maxHeartbeats 40000000 in
theorem rm0 (l : Launch) (Z : State) (aZ : Array Value) (hw : ∀ d ∈ tables_1, d.before aZ Z = true) (ws : List Jvm.Cond) (p0 : Int32) (q1 : Int64) (q2 : Int64) (q3 : Int64) (h0 : Heap) (n0 : Nat) (Z0 : n0 ≤ h0.size) :
    MetFree l x (head1 (Jvm.Cond.code x code maxLocals ret :: ws) room_1) (fun a U => a = #[(.int p0), (.long q1), (.long q2), (.long q3)] ∧ Z.Warmed39 U.vm ∧ U.heap = h0) (fun _ _ _ _ _ => True) (fun _ U o U' => ∃ v L, o = .returned v ∧ Q0 Z p0 q1 q2 q3 h0 n0 v U'.heap L ∧ FrameEnd U o U' L room_1.cells room_1.slots) := by
  refine MetFree.of_bodySF (plainFor_of_name pn_com_example_assentor_assentor_check_OdometerBeforePinLaw) hisR ?_
  intro p e s m args below meth c s₁ Bd hml0 hP hK
  obtain ⟨rfl, hZ, hh⟩ := hP
  have hx := Bd.exec
  have hby := Bd.bytes
  have hlk : meth.locks = false := BodyLoose.notSynchronized Bd
  have hml : c.maxLocals = 22 := hml0
  have hown : s.vm.findClass "com/example/assentor/assentor/check/OdometerBeforePinLaw" = some m.cls := findClass_of_methodNamed Bd.named
  have hnm := (name_of_methodNamed Bd.named Bd.method).1
  have X0 : Stand p l e room_1 s m #[(.int p0), (.long q1), (.long q2), (.long q3)] below meth c s₁ [] 0 0 := Stand.of_body Bd
  have e0 : s₁.heap = h0 := by rw [← hh, Bd.state]; rfl
  have N0 := Fr.nil n0
  show OEnd p e below s s₁ (entryFrame m #[(.int p0), (.long q1), (.long q2), (.long q3)] maxLocals) (Q0 Z p0 q1 q2 q3 h0 n0) room_1.cells room_1.slots
  refine OEnd.go (g' := (mkF m 0 (la0_43 p0 q1 q2 q3) [])) (fun _ k => castTop (ef_0 m p0 q1 q2 q3) k) ?_
  refine OEnd.go (T' := s₁) (g' := (mkF m 30 (la0_3 p0 q1 q2 q3) [(.int (p0 &&& (4 : Int32)))])) (fun t k => ?_) ?_
  · show Steps p.tables e below (s₁.setTop (mkF m 0 (la0_43 p0 q1 q2 q3) [])) t
    refine XS.iloadN X0.here hx rfl (hb hby at_0) rfl ?_
    show Steps p.tables e below (s₁.setTop (mkF m 1 (la0_43 p0 q1 q2 q3) [(.int p0)])) t
    refine XS.iconst X0.here hx rfl (hb hby at_1) ?_
    show Steps p.tables e below (s₁.setTop (mkF m 2 (la0_43 p0 q1 q2 q3) [(.int (3 : Int32)), (.int p0)])) t
    refine XS.iand X0.here hx rfl (hb hby at_2) rfl ?_
    show Steps p.tables e below (s₁.setTop (mkF m 3 (la0_43 p0 q1 q2 q3) [(.int (p0 &&& (3 : Int32)))])) t
    refine XS.istore X0.here hx rfl (hb hby at_3) rfl (l' := (la0_0 p0 q1 q2 q3)) rfl ?_
    show Steps p.tables e below (s₁.setTop (mkF m 5 (la0_0 p0 q1 q2 q3) [])) t
    refine XS.lloadN X0.here hx rfl (hb hby at_5) rfl ?_
    show Steps p.tables e below (s₁.setTop (mkF m 6 (la0_0 p0 q1 q2 q3) [(.long q1)])) t
    refine XS.bipush X0.here hx rfl (hb hby at_6) ?_
    show Steps p.tables e below (s₁.setTop (mkF m 8 (la0_0 p0 q1 q2 q3) [(.int (32 : Int32)), (.long q1)])) t
    refine XS.lushr X0.here hx rfl (hb hby at_8) rfl ?_
    show Steps p.tables e below (s₁.setTop (mkF m 9 (la0_0 p0 q1 q2 q3) [(.long ((q1.toUInt64 >>> ((32 : Int32) &&& 0x3f).toInt64.toUInt64).toInt64))])) t
    refine XS.l2i X0.here hx rfl (hb hby at_9) rfl ?_
    show Steps p.tables e below (s₁.setTop (mkF m 10 (la0_0 p0 q1 q2 q3) [(.int (((q1.toUInt64 >>> ((32 : Int32) &&& 0x3f).toInt64.toUInt64).toInt64).toInt32))])) t
    refine XS.istore X0.here hx rfl (hb hby at_10) rfl (l' := (la0_1 p0 q1 q2 q3)) rfl ?_
    show Steps p.tables e below (s₁.setTop (mkF m 12 (la0_1 p0 q1 q2 q3) [])) t
    refine XS.lloadN X0.here hx rfl (hb hby at_12) rfl ?_
    show Steps p.tables e below (s₁.setTop (mkF m 13 (la0_1 p0 q1 q2 q3) [(.long q2)])) t
    refine XS.bipush X0.here hx rfl (hb hby at_13) ?_
    show Steps p.tables e below (s₁.setTop (mkF m 15 (la0_1 p0 q1 q2 q3) [(.int (32 : Int32)), (.long q2)])) t
    refine XS.lushr X0.here hx rfl (hb hby at_15) rfl ?_
    show Steps p.tables e below (s₁.setTop (mkF m 16 (la0_1 p0 q1 q2 q3) [(.long ((q2.toUInt64 >>> ((32 : Int32) &&& 0x3f).toInt64.toUInt64).toInt64))])) t
    refine XS.l2i X0.here hx rfl (hb hby at_16) rfl ?_
    show Steps p.tables e below (s₁.setTop (mkF m 17 (la0_1 p0 q1 q2 q3) [(.int (((q2.toUInt64 >>> ((32 : Int32) &&& 0x3f).toInt64.toUInt64).toInt64).toInt32))])) t
    refine XS.istore X0.here hx rfl (hb hby at_17) rfl (l' := (la0_2 p0 q1 q2 q3)) rfl ?_
    show Steps p.tables e below (s₁.setTop (mkF m 19 (la0_2 p0 q1 q2 q3) [])) t
    refine XS.lload X0.here hx rfl (hb hby at_19) rfl ?_
    show Steps p.tables e below (s₁.setTop (mkF m 21 (la0_2 p0 q1 q2 q3) [(.long q3)])) t
    refine XS.bipush X0.here hx rfl (hb hby at_21) ?_
    show Steps p.tables e below (s₁.setTop (mkF m 23 (la0_2 p0 q1 q2 q3) [(.int (32 : Int32)), (.long q3)])) t
    refine XS.lushr X0.here hx rfl (hb hby at_23) rfl ?_
    show Steps p.tables e below (s₁.setTop (mkF m 24 (la0_2 p0 q1 q2 q3) [(.long ((q3.toUInt64 >>> ((32 : Int32) &&& 0x3f).toInt64.toUInt64).toInt64))])) t
    refine XS.l2i X0.here hx rfl (hb hby at_24) rfl ?_
    show Steps p.tables e below (s₁.setTop (mkF m 25 (la0_2 p0 q1 q2 q3) [(.int (((q3.toUInt64 >>> ((32 : Int32) &&& 0x3f).toInt64.toUInt64).toInt64).toInt32))])) t
    refine XS.istore X0.here hx rfl (hb hby at_25) rfl (l' := (la0_3 p0 q1 q2 q3)) rfl ?_
    show Steps p.tables e below (s₁.setTop (mkF m 27 (la0_3 p0 q1 q2 q3) [])) t
    refine XS.iloadN X0.here hx rfl (hb hby at_27) rfl ?_
    show Steps p.tables e below (s₁.setTop (mkF m 28 (la0_3 p0 q1 q2 q3) [(.int p0)])) t
    refine XS.iconst X0.here hx rfl (hb hby at_28) ?_
    show Steps p.tables e below (s₁.setTop (mkF m 29 (la0_3 p0 q1 q2 q3) [(.int (4 : Int32)), (.int p0)])) t
    refine XS.iand X0.here hx rfl (hb hby at_29) rfl ?_
    show Steps p.tables e below (s₁.setTop (mkF m 30 (la0_3 p0 q1 q2 q3) [(.int (p0 &&& (4 : Int32)))])) t
    exact k
  refine OEnd.go (T' := s₁) (g' := (mkF m 40 (la0_3 p0 q1 q2 q3) [(.int (if (p0 &&& (4 : Int32)) = (0 : Int32) then (q1.toInt32) else (v0_10 p0 q1 q2 q3)))])) (fun t k => ?_) ?_
  · show Steps p.tables e below (s₁.setTop (mkF m 30 (la0_3 p0 q1 q2 q3) [(.int (p0 &&& (4 : Int32)))])) t
    by_cases hc1 : (p0 &&& (4 : Int32)) = (0 : Int32)
    · skip
      refine XS.ifYes X0.here hx rfl (pc0 := 30) (pc' := 38) rfl (hb hby at_30) rfl ((if0 _ _).trans (teq (hc1)).1) (by decide) (by decide) ?_
      show Steps p.tables e below (s₁.setTop (mkF m 38 (la0_3 p0 q1 q2 q3) [])) t
      refine SGo.go (T' := s₁) (g' := (mkF m 40 (la0_3 p0 q1 q2 q3) [(.int (q1.toInt32))])) (fun t k => ?_) ?_
      · show Steps p.tables e below (s₁.setTop (mkF m 38 (la0_3 p0 q1 q2 q3) [])) t
        refine XS.lloadN X0.here hx rfl (hb hby at_38) rfl ?_
        show Steps p.tables e below (s₁.setTop (mkF m 39 (la0_3 p0 q1 q2 q3) [(.long q1)])) t
        refine XS.l2i X0.here hx rfl (hb hby at_39) rfl ?_
        show Steps p.tables e below (s₁.setTop (mkF m 40 (la0_3 p0 q1 q2 q3) [(.int (q1.toInt32))])) t
        exact k
      exact (own_k (f := fun (z : Int32) => mkF m 40 #[.val (.int p0), .val (.long q1), .second, .val (.long q2), .second, .val (.long q3), .second, .val (.int (p0 &&& (3 : Int32))), .val (.int (v0_10 p0 q1 q2 q3)), .val (.int (v0_17 p0 q1 q2 q3)), .val (.int (v0_25 p0 q1 q2 q3)), .unset, .unset, .unset, .unset, .unset, .unset, .unset, .unset, .unset, .unset, .unset] [(.int z)]) (if_pos hc1) k)
    · skip
      refine XS.ifNo X0.here hx rfl (hb hby at_30) rfl ((if0 _ _).trans (feq (hc1)).1) ?_
      show Steps p.tables e below (s₁.setTop (mkF m 33 (la0_3 p0 q1 q2 q3) [])) t
      refine SGo.go (T' := s₁) (g' := (mkF m 40 (la0_3 p0 q1 q2 q3) [(.int (v0_10 p0 q1 q2 q3))])) (fun t k => ?_) ?_
      · show Steps p.tables e below (s₁.setTop (mkF m 33 (la0_3 p0 q1 q2 q3) [])) t
        refine XS.iload X0.here hx rfl (hb hby at_33) rfl ?_
        show Steps p.tables e below (s₁.setTop (mkF m 35 (la0_3 p0 q1 q2 q3) [(.int (v0_10 p0 q1 q2 q3))])) t
        refine XS.goto X0.here hx rfl (pc0 := 35) (pc' := 40) rfl (hb hby at_35) (by decide) (by decide) ?_
        show Steps p.tables e below (s₁.setTop (mkF m 40 (la0_3 p0 q1 q2 q3) [(.int (v0_10 p0 q1 q2 q3))])) t
        exact k
      exact (own_k (f := fun (z : Int32) => mkF m 40 #[.val (.int p0), .val (.long q1), .second, .val (.long q2), .second, .val (.long q3), .second, .val (.int (p0 &&& (3 : Int32))), .val (.int (v0_10 p0 q1 q2 q3)), .val (.int (v0_17 p0 q1 q2 q3)), .val (.int (v0_25 p0 q1 q2 q3)), .unset, .unset, .unset, .unset, .unset, .unset, .unset, .unset, .unset, .unset, .unset] [(.int z)]) (if_neg hc1) k)
  refine OEnd.go (T' := s₁) (g' := (mkF m 46 (la0_4 p0 q1 q2 q3) [(.int (p0 &&& (8 : Int32)))])) (fun t k => ?_) ?_
  · show Steps p.tables e below (s₁.setTop (mkF m 40 (la0_3 p0 q1 q2 q3) [(.int (if (p0 &&& (4 : Int32)) = (0 : Int32) then (q1.toInt32) else (v0_10 p0 q1 q2 q3)))])) t
    refine XS.istore X0.here hx rfl (hb hby at_40) rfl (l' := (la0_4 p0 q1 q2 q3)) rfl ?_
    show Steps p.tables e below (s₁.setTop (mkF m 42 (la0_4 p0 q1 q2 q3) [])) t
    refine XS.iloadN X0.here hx rfl (hb hby at_42) rfl ?_
    show Steps p.tables e below (s₁.setTop (mkF m 43 (la0_4 p0 q1 q2 q3) [(.int p0)])) t
    refine XS.bipush X0.here hx rfl (hb hby at_43) ?_
    show Steps p.tables e below (s₁.setTop (mkF m 45 (la0_4 p0 q1 q2 q3) [(.int (8 : Int32)), (.int p0)])) t
    refine XS.iand X0.here hx rfl (hb hby at_45) rfl ?_
    show Steps p.tables e below (s₁.setTop (mkF m 46 (la0_4 p0 q1 q2 q3) [(.int (p0 &&& (8 : Int32)))])) t
    exact k
  refine OEnd.go (T' := s₁) (g' := (mkF m 56 (la0_4 p0 q1 q2 q3) [(.int (if (p0 &&& (8 : Int32)) = (0 : Int32) then (q2.toInt32) else (v0_17 p0 q1 q2 q3)))])) (fun t k => ?_) ?_
  · show Steps p.tables e below (s₁.setTop (mkF m 46 (la0_4 p0 q1 q2 q3) [(.int (p0 &&& (8 : Int32)))])) t
    by_cases hc2 : (p0 &&& (8 : Int32)) = (0 : Int32)
    · skip
      refine XS.ifYes X0.here hx rfl (pc0 := 46) (pc' := 54) rfl (hb hby at_46) rfl ((if0 _ _).trans (teq (hc2)).1) (by decide) (by decide) ?_
      show Steps p.tables e below (s₁.setTop (mkF m 54 (la0_4 p0 q1 q2 q3) [])) t
      refine SGo.go (T' := s₁) (g' := (mkF m 56 (la0_4 p0 q1 q2 q3) [(.int (q2.toInt32))])) (fun t k => ?_) ?_
      · show Steps p.tables e below (s₁.setTop (mkF m 54 (la0_4 p0 q1 q2 q3) [])) t
        refine XS.lloadN X0.here hx rfl (hb hby at_54) rfl ?_
        show Steps p.tables e below (s₁.setTop (mkF m 55 (la0_4 p0 q1 q2 q3) [(.long q2)])) t
        refine XS.l2i X0.here hx rfl (hb hby at_55) rfl ?_
        show Steps p.tables e below (s₁.setTop (mkF m 56 (la0_4 p0 q1 q2 q3) [(.int (q2.toInt32))])) t
        exact k
      exact (own_k (f := fun (z : Int32) => mkF m 56 #[.val (.int p0), .val (.long q1), .second, .val (.long q2), .second, .val (.long q3), .second, .val (.int (p0 &&& (3 : Int32))), .val (.int (v0_10 p0 q1 q2 q3)), .val (.int (v0_17 p0 q1 q2 q3)), .val (.int (v0_25 p0 q1 q2 q3)), .val (.int (v0_40 p0 q1 q2 q3)), .unset, .unset, .unset, .unset, .unset, .unset, .unset, .unset, .unset, .unset] [(.int z)]) (if_pos hc2) k)
    · skip
      refine XS.ifNo X0.here hx rfl (hb hby at_46) rfl ((if0 _ _).trans (feq (hc2)).1) ?_
      show Steps p.tables e below (s₁.setTop (mkF m 49 (la0_4 p0 q1 q2 q3) [])) t
      refine SGo.go (T' := s₁) (g' := (mkF m 56 (la0_4 p0 q1 q2 q3) [(.int (v0_17 p0 q1 q2 q3))])) (fun t k => ?_) ?_
      · show Steps p.tables e below (s₁.setTop (mkF m 49 (la0_4 p0 q1 q2 q3) [])) t
        refine XS.iload X0.here hx rfl (hb hby at_49) rfl ?_
        show Steps p.tables e below (s₁.setTop (mkF m 51 (la0_4 p0 q1 q2 q3) [(.int (v0_17 p0 q1 q2 q3))])) t
        refine XS.goto X0.here hx rfl (pc0 := 51) (pc' := 56) rfl (hb hby at_51) (by decide) (by decide) ?_
        show Steps p.tables e below (s₁.setTop (mkF m 56 (la0_4 p0 q1 q2 q3) [(.int (v0_17 p0 q1 q2 q3))])) t
        exact k
      exact (own_k (f := fun (z : Int32) => mkF m 56 #[.val (.int p0), .val (.long q1), .second, .val (.long q2), .second, .val (.long q3), .second, .val (.int (p0 &&& (3 : Int32))), .val (.int (v0_10 p0 q1 q2 q3)), .val (.int (v0_17 p0 q1 q2 q3)), .val (.int (v0_25 p0 q1 q2 q3)), .val (.int (v0_40 p0 q1 q2 q3)), .unset, .unset, .unset, .unset, .unset, .unset, .unset, .unset, .unset, .unset] [(.int z)]) (if_neg hc2) k)
  refine OEnd.go (T' := s₁) (g' := (mkF m 62 (la0_5 p0 q1 q2 q3) [(.int (p0 &&& (16 : Int32)))])) (fun t k => ?_) ?_
  · show Steps p.tables e below (s₁.setTop (mkF m 56 (la0_4 p0 q1 q2 q3) [(.int (if (p0 &&& (8 : Int32)) = (0 : Int32) then (q2.toInt32) else (v0_17 p0 q1 q2 q3)))])) t
    refine XS.istore X0.here hx rfl (hb hby at_56) rfl (l' := (la0_5 p0 q1 q2 q3)) rfl ?_
    show Steps p.tables e below (s₁.setTop (mkF m 58 (la0_5 p0 q1 q2 q3) [])) t
    refine XS.iloadN X0.here hx rfl (hb hby at_58) rfl ?_
    show Steps p.tables e below (s₁.setTop (mkF m 59 (la0_5 p0 q1 q2 q3) [(.int p0)])) t
    refine XS.bipush X0.here hx rfl (hb hby at_59) ?_
    show Steps p.tables e below (s₁.setTop (mkF m 61 (la0_5 p0 q1 q2 q3) [(.int (16 : Int32)), (.int p0)])) t
    refine XS.iand X0.here hx rfl (hb hby at_61) rfl ?_
    show Steps p.tables e below (s₁.setTop (mkF m 62 (la0_5 p0 q1 q2 q3) [(.int (p0 &&& (16 : Int32)))])) t
    exact k
  refine OEnd.go (T' := s₁) (g' := (mkF m 73 (la0_5 p0 q1 q2 q3) [(.int (if (p0 &&& (16 : Int32)) = (0 : Int32) then (q3.toInt32) else (v0_25 p0 q1 q2 q3)))])) (fun t k => ?_) ?_
  · show Steps p.tables e below (s₁.setTop (mkF m 62 (la0_5 p0 q1 q2 q3) [(.int (p0 &&& (16 : Int32)))])) t
    by_cases hc3 : (p0 &&& (16 : Int32)) = (0 : Int32)
    · skip
      refine XS.ifYes X0.here hx rfl (pc0 := 62) (pc' := 70) rfl (hb hby at_62) rfl ((if0 _ _).trans (teq (hc3)).1) (by decide) (by decide) ?_
      show Steps p.tables e below (s₁.setTop (mkF m 70 (la0_5 p0 q1 q2 q3) [])) t
      refine SGo.go (T' := s₁) (g' := (mkF m 73 (la0_5 p0 q1 q2 q3) [(.int (q3.toInt32))])) (fun t k => ?_) ?_
      · show Steps p.tables e below (s₁.setTop (mkF m 70 (la0_5 p0 q1 q2 q3) [])) t
        refine XS.lload X0.here hx rfl (hb hby at_70) rfl ?_
        show Steps p.tables e below (s₁.setTop (mkF m 72 (la0_5 p0 q1 q2 q3) [(.long q3)])) t
        refine XS.l2i X0.here hx rfl (hb hby at_72) rfl ?_
        show Steps p.tables e below (s₁.setTop (mkF m 73 (la0_5 p0 q1 q2 q3) [(.int (q3.toInt32))])) t
        exact k
      exact (own_k (f := fun (z : Int32) => mkF m 73 #[.val (.int p0), .val (.long q1), .second, .val (.long q2), .second, .val (.long q3), .second, .val (.int (p0 &&& (3 : Int32))), .val (.int (v0_10 p0 q1 q2 q3)), .val (.int (v0_17 p0 q1 q2 q3)), .val (.int (v0_25 p0 q1 q2 q3)), .val (.int (v0_40 p0 q1 q2 q3)), .val (.int (v0_56 p0 q1 q2 q3)), .unset, .unset, .unset, .unset, .unset, .unset, .unset, .unset, .unset] [(.int z)]) (if_pos hc3) k)
    · skip
      refine XS.ifNo X0.here hx rfl (hb hby at_62) rfl ((if0 _ _).trans (feq (hc3)).1) ?_
      show Steps p.tables e below (s₁.setTop (mkF m 65 (la0_5 p0 q1 q2 q3) [])) t
      refine SGo.go (T' := s₁) (g' := (mkF m 73 (la0_5 p0 q1 q2 q3) [(.int (v0_25 p0 q1 q2 q3))])) (fun t k => ?_) ?_
      · show Steps p.tables e below (s₁.setTop (mkF m 65 (la0_5 p0 q1 q2 q3) [])) t
        refine XS.iload X0.here hx rfl (hb hby at_65) rfl ?_
        show Steps p.tables e below (s₁.setTop (mkF m 67 (la0_5 p0 q1 q2 q3) [(.int (v0_25 p0 q1 q2 q3))])) t
        refine XS.goto X0.here hx rfl (pc0 := 67) (pc' := 73) rfl (hb hby at_67) (by decide) (by decide) ?_
        show Steps p.tables e below (s₁.setTop (mkF m 73 (la0_5 p0 q1 q2 q3) [(.int (v0_25 p0 q1 q2 q3))])) t
        exact k
      exact (own_k (f := fun (z : Int32) => mkF m 73 #[.val (.int p0), .val (.long q1), .second, .val (.long q2), .second, .val (.long q3), .second, .val (.int (p0 &&& (3 : Int32))), .val (.int (v0_10 p0 q1 q2 q3)), .val (.int (v0_17 p0 q1 q2 q3)), .val (.int (v0_25 p0 q1 q2 q3)), .val (.int (v0_40 p0 q1 q2 q3)), .val (.int (v0_56 p0 q1 q2 q3)), .unset, .unset, .unset, .unset, .unset, .unset, .unset, .unset, .unset] [(.int z)]) (if_neg hc3) k)
  refine OEnd.go (T' := s₁) (g' := (mkF m 75 (la0_6 p0 q1 q2 q3) [])) (fun t k => ?_) ?_
  · show Steps p.tables e below (s₁.setTop (mkF m 73 (la0_5 p0 q1 q2 q3) [(.int (if (p0 &&& (16 : Int32)) = (0 : Int32) then (q3.toInt32) else (v0_25 p0 q1 q2 q3)))])) t
    refine XS.istore X0.here hx rfl (hb hby at_73) rfl (l' := (la0_6 p0 q1 q2 q3)) rfl ?_
    show Steps p.tables e below (s₁.setTop (mkF m 75 (la0_6 p0 q1 q2 q3) [])) t
    exact k
  rcases (own_four p0) with hs4 | hs4 | hs4 | hs4
  · skip
    refine OEnd.go (T' := s₁) (g' := (mkF m 75 (la0_7 p0 q1 q2 q3) [])) (fun t k => (own_k (f := fun (z : Int32) => mkF m 75 #[.val (.int p0), .val (.long q1), .second, .val (.long q2), .second, .val (.long q3), .second, .val (.int z), .val (.int (v0_10 p0 q1 q2 q3)), .val (.int (v0_17 p0 q1 q2 q3)), .val (.int (v0_25 p0 q1 q2 q3)), .val (.int (v0_40 p0 q1 q2 q3)), .val (.int (v0_56 p0 q1 q2 q3)), .val (.int (v0_73 p0 q1 q2 q3)), .unset, .unset, .unset, .unset, .unset, .unset, .unset, .unset] []) hs4.symm k)) ?_
    refine OEnd.go (T' := s₁) (g' := (mkF m 83 (la0_7 p0 q1 q2 q3) [(.int (v0_25 p0 q1 q2 q3)), (.int (v0_17 p0 q1 q2 q3)), (.int (v0_10 p0 q1 q2 q3)), (.int (0 : Int32))])) (fun t k => ?_) ?_
    · show Steps p.tables e below (s₁.setTop (mkF m 75 (la0_7 p0 q1 q2 q3) [])) t
      refine XS.iload X0.here hx rfl (hb hby at_75) rfl ?_
      show Steps p.tables e below (s₁.setTop (mkF m 77 (la0_7 p0 q1 q2 q3) [(.int (0 : Int32))])) t
      refine XS.iload X0.here hx rfl (hb hby at_77) rfl ?_
      show Steps p.tables e below (s₁.setTop (mkF m 79 (la0_7 p0 q1 q2 q3) [(.int (v0_10 p0 q1 q2 q3)), (.int (0 : Int32))])) t
      refine XS.iload X0.here hx rfl (hb hby at_79) rfl ?_
      show Steps p.tables e below (s₁.setTop (mkF m 81 (la0_7 p0 q1 q2 q3) [(.int (v0_17 p0 q1 q2 q3)), (.int (v0_10 p0 q1 q2 q3)), (.int (0 : Int32))])) t
      refine XS.iload X0.here hx rfl (hb hby at_81) rfl ?_
      show Steps p.tables e below (s₁.setTop (mkF m 83 (la0_7 p0 q1 q2 q3) [(.int (v0_25 p0 q1 q2 q3)), (.int (v0_17 p0 q1 q2 q3)), (.int (v0_10 p0 q1 q2 q3)), (.int (0 : Int32))])) t
      exact k
    obtain ⟨_, _, ⟨T5, L5, k5, n5⟩, -, X5, ⟨Lc5, hQ5, l5, y5, z5⟩, st5⟩ := Jvm.LawKit.callS X0 hx (y := (⟨"com/example/assentor/assentor/check/OdometerBeforePinLaw", "mk", "(IIII)[I"⟩ : MethodName)) hown (mvT hZ (hw _ (List.mem_of_getElem? (i := 0) rfl))) (mvT hZ (hw _ (List.mem_of_getElem? (i := 1) rfl))) (mvT hZ (hw _ (List.mem_of_getElem? (i := 2) rfl))) (mvT hZ (hw _ (List.mem_of_getElem? (i := 3) rfl))) (by decide) (backOf (W := 0) (rm1_0 l Z aZ hw [] (v0_10 p0 q1 q2 q3) (v0_17 p0 q1 q2 q3) (v0_25 p0 q1 q2 q3) h0 n0 Z0 ) hZ (hw _ (List.mem_of_getElem? (i := 3) rfl)) (hw _ (List.mem_of_getElem? (i := 2) rfl)) (by decide) (by decide)) (g := (mkF m 83 (la0_7 p0 q1 q2 q3) [(.int (v0_25 p0 q1 q2 q3)), (.int (v0_17 p0 q1 q2 q3)), (.int (v0_10 p0 q1 q2 q3)), (.int (0 : Int32))])) rfl (by rw [hml]; rfl) (argsL := [(.int (0 : Int32)), (.int (v0_10 p0 q1 q2 q3)), (.int (v0_17 p0 q1 q2 q3)), (.int (v0_25 p0 q1 q2 q3))]) (rest := []) (lenOf pd__IIII__I rfl) rfl (by show 2 * 0 + _ ≤ _; exact Nat.le_of_eq rfl) (hb hby at_83) (fun _ _ => ⟨rfl, e0, (by decide : 0 + 1 ≤ _), (by decide : 0 + 0 ≤ _)⟩)
    dsimp only [Pt.U, Pt.locs, Pt.cells, Pt.slots] at X5 l5 y5 z5 st5 hQ5
    subst l5 y5 z5
    obtain ⟨r0_83, rfl, gle_r0_83, sz_r0_83', N5q, u5_0, u5_1⟩ := hQ5
    have N5 := Fr.app N0 N5q
    have Z5 : n0 ≤ T5.heap.size := Nat.le_trans Z0 u5_0.1
    refine OEnd.go (g' := (mkF m 86 (la0_7 p0 q1 q2 q3) [(.ref r0_83)])) st5 ?_
    refine OEnd.go (T' := T5) (g' := (mkF m 96 (la0_8 p0 q1 q2 q3 r0_83) [(.int (v0_73 p0 q1 q2 q3)), (.int (v0_56 p0 q1 q2 q3)), (.int (v0_40 p0 q1 q2 q3)), (.int (0 : Int32))])) (fun t k => ?_) ?_
    · show Steps p.tables e below (T5.setTop (mkF m 86 (la0_7 p0 q1 q2 q3) [(.ref r0_83)])) t
      refine XS.astore X5.here hx rfl (hb hby at_86) rfl rfl (l' := (la0_8 p0 q1 q2 q3 r0_83)) rfl ?_
      show Steps p.tables e below (T5.setTop (mkF m 88 (la0_8 p0 q1 q2 q3 r0_83) [])) t
      refine XS.iload X5.here hx rfl (hb hby at_88) rfl ?_
      show Steps p.tables e below (T5.setTop (mkF m 90 (la0_8 p0 q1 q2 q3 r0_83) [(.int (0 : Int32))])) t
      refine XS.iload X5.here hx rfl (hb hby at_90) rfl ?_
      show Steps p.tables e below (T5.setTop (mkF m 92 (la0_8 p0 q1 q2 q3 r0_83) [(.int (v0_40 p0 q1 q2 q3)), (.int (0 : Int32))])) t
      refine XS.iload X5.here hx rfl (hb hby at_92) rfl ?_
      show Steps p.tables e below (T5.setTop (mkF m 94 (la0_8 p0 q1 q2 q3 r0_83) [(.int (v0_56 p0 q1 q2 q3)), (.int (v0_40 p0 q1 q2 q3)), (.int (0 : Int32))])) t
      refine XS.iload X5.here hx rfl (hb hby at_94) rfl ?_
      show Steps p.tables e below (T5.setTop (mkF m 96 (la0_8 p0 q1 q2 q3 r0_83) [(.int (v0_73 p0 q1 q2 q3)), (.int (v0_56 p0 q1 q2 q3)), (.int (v0_40 p0 q1 q2 q3)), (.int (0 : Int32))])) t
      exact k
    obtain ⟨_, _, ⟨T6, L6, k6, n6⟩, -, X6, ⟨Lc6, hQ6, l6, y6, z6⟩, st6⟩ := Jvm.LawKit.callS X5 hx (y := (⟨"com/example/assentor/assentor/check/OdometerBeforePinLaw", "mk", "(IIII)[I"⟩ : MethodName)) hown (mvT hZ (hw _ (List.mem_of_getElem? (i := 0) rfl))) (mvT hZ (hw _ (List.mem_of_getElem? (i := 1) rfl))) (mvT hZ (hw _ (List.mem_of_getElem? (i := 2) rfl))) (mvT hZ (hw _ (List.mem_of_getElem? (i := 3) rfl))) (by decide) (backOf (W := 0) (rm1_0 l Z aZ hw [] (v0_40 p0 q1 q2 q3) (v0_56 p0 q1 q2 q3) (v0_73 p0 q1 q2 q3) T5.heap n0 Z5 ) hZ (hw _ (List.mem_of_getElem? (i := 3) rfl)) (hw _ (List.mem_of_getElem? (i := 2) rfl)) (by decide) (by decide)) (g := (mkF m 96 (la0_8 p0 q1 q2 q3 r0_83) [(.int (v0_73 p0 q1 q2 q3)), (.int (v0_56 p0 q1 q2 q3)), (.int (v0_40 p0 q1 q2 q3)), (.int (0 : Int32))])) rfl (by rw [hml]; rfl) (argsL := [(.int (0 : Int32)), (.int (v0_40 p0 q1 q2 q3)), (.int (v0_56 p0 q1 q2 q3)), (.int (v0_73 p0 q1 q2 q3))]) (rest := []) (lenOf pd__IIII__I rfl) rfl (by show 2 * 0 + _ ≤ _; exact Nat.le_of_eq rfl) (hb hby at_96) (fun _ _ => ⟨rfl, rfl, (by decide : 1 + 1 ≤ _), (by decide : 0 + 0 ≤ _)⟩)
    dsimp only [Pt.U, Pt.locs, Pt.cells, Pt.slots] at X6 l6 y6 z6 st6 hQ6
    subst l6 y6 z6
    obtain ⟨r0_96, rfl, gle_r0_96, sz_r0_96', N6q, u6_0, u6_1⟩ := hQ6
    have ne_r0_83_r0_96 : r0_83 ≠ r0_96 := Nat.ne_of_lt (Nat.lt_of_lt_of_le u5_1.lt sz_r0_96')
    have N6 := Fr.app N5 N6q
    have Z6 : n0 ≤ T6.heap.size := Nat.le_trans Z5 u6_0.1
    have fc7 : OArr Z T6.heap r0_83 .int (0 : Int32) [] (.int (0 : Int32)) := (u5_1.keep u6_0 nin0)
    refine OEnd.go (g' := (mkF m 99 (la0_8 p0 q1 q2 q3 r0_83) [(.ref r0_96)])) st6 ?_
    refine OEnd.go (T' := T6) (g' := (mkF m 186 (la0_13 p0 q1 q2 q3 r0_83 r0_96) [(.ref r0_96), (.ref r0_83)])) (fun t k => ?_) ?_
    · show Steps p.tables e below (T6.setTop (mkF m 99 (la0_8 p0 q1 q2 q3 r0_83) [(.ref r0_96)])) t
      refine XS.astore X6.here hx rfl (hb hby at_99) rfl rfl (l' := (la0_9 p0 q1 q2 q3 r0_83 r0_96)) rfl ?_
      show Steps p.tables e below (T6.setTop (mkF m 101 (la0_9 p0 q1 q2 q3 r0_83 r0_96) [])) t
      refine XS.iload X6.here hx rfl (hb hby at_101) rfl ?_
      show Steps p.tables e below (T6.setTop (mkF m 103 (la0_9 p0 q1 q2 q3 r0_83 r0_96) [(.int (0 : Int32))])) t
      refine XS.iconst X6.here hx rfl (hb hby at_103) ?_
      show Steps p.tables e below (T6.setTop (mkF m 104 (la0_9 p0 q1 q2 q3 r0_83 r0_96) [(.int (3 : Int32)), (.int (0 : Int32))])) t
      refine XS.icmpYes X6.here hx rfl (pc0 := 104) (pc' := 117) rfl (hb hby at_104) rfl (tlt ((by decide))).1 (by decide) (by decide) ?_
      show Steps p.tables e below (T6.setTop (mkF m 117 (la0_9 p0 q1 q2 q3 r0_83 r0_96) [])) t
      refine XS.iconst X6.here hx rfl (hb hby at_117) ?_
      show Steps p.tables e below (T6.setTop (mkF m 118 (la0_9 p0 q1 q2 q3 r0_83 r0_96) [(.int (0 : Int32))])) t
      refine XS.istore X6.here hx rfl (hb hby at_118) rfl (l' := (la0_10 p0 q1 q2 q3 r0_83 r0_96)) rfl ?_
      show Steps p.tables e below (T6.setTop (mkF m 120 (la0_10 p0 q1 q2 q3 r0_83 r0_96) [])) t
      refine XS.iload X6.here hx rfl (hb hby at_120) rfl ?_
      show Steps p.tables e below (T6.setTop (mkF m 122 (la0_10 p0 q1 q2 q3 r0_83 r0_96) [(.int (0 : Int32))])) t
      refine XS.iconst X6.here hx rfl (hb hby at_122) ?_
      show Steps p.tables e below (T6.setTop (mkF m 123 (la0_10 p0 q1 q2 q3 r0_83 r0_96) [(.int (2 : Int32)), (.int (0 : Int32))])) t
      refine XS.icmpYes X6.here hx rfl (pc0 := 123) (pc' := 136) rfl (hb hby at_123) rfl (tlt ((by decide))).1 (by decide) (by decide) ?_
      show Steps p.tables e below (T6.setTop (mkF m 136 (la0_10 p0 q1 q2 q3 r0_83 r0_96) [])) t
      refine XS.iconst X6.here hx rfl (hb hby at_136) ?_
      show Steps p.tables e below (T6.setTop (mkF m 137 (la0_10 p0 q1 q2 q3 r0_83 r0_96) [(.int (0 : Int32))])) t
      refine XS.istore X6.here hx rfl (hb hby at_137) rfl (l' := (la0_11 p0 q1 q2 q3 r0_83 r0_96)) rfl ?_
      show Steps p.tables e below (T6.setTop (mkF m 139 (la0_11 p0 q1 q2 q3 r0_83 r0_96) [])) t
      refine XS.iload X6.here hx rfl (hb hby at_139) rfl ?_
      show Steps p.tables e below (T6.setTop (mkF m 141 (la0_11 p0 q1 q2 q3 r0_83 r0_96) [(.int (0 : Int32))])) t
      refine XS.iconst X6.here hx rfl (hb hby at_141) ?_
      show Steps p.tables e below (T6.setTop (mkF m 142 (la0_11 p0 q1 q2 q3 r0_83 r0_96) [(.int (1 : Int32)), (.int (0 : Int32))])) t
      refine XS.icmpYes X6.here hx rfl (pc0 := 142) (pc' := 155) rfl (hb hby at_142) rfl (tlt ((by decide))).1 (by decide) (by decide) ?_
      show Steps p.tables e below (T6.setTop (mkF m 155 (la0_11 p0 q1 q2 q3 r0_83 r0_96) [])) t
      refine XS.iconst X6.here hx rfl (hb hby at_155) ?_
      show Steps p.tables e below (T6.setTop (mkF m 156 (la0_11 p0 q1 q2 q3 r0_83 r0_96) [(.int (0 : Int32))])) t
      refine XS.istore X6.here hx rfl (hb hby at_156) rfl (l' := (la0_12 p0 q1 q2 q3 r0_83 r0_96)) rfl ?_
      show Steps p.tables e below (T6.setTop (mkF m 158 (la0_12 p0 q1 q2 q3 r0_83 r0_96) [])) t
      refine XS.iload X6.here hx rfl (hb hby at_158) rfl ?_
      show Steps p.tables e below (T6.setTop (mkF m 160 (la0_12 p0 q1 q2 q3 r0_83 r0_96) [(.int (0 : Int32))])) t
      refine XS.ifYes X6.here hx rfl (pc0 := 160) (pc' := 168) rfl (hb hby at_160) rfl ((if0 _ _).trans (teq ((by decide))).1) (by decide) (by decide) ?_
      show Steps p.tables e below (T6.setTop (mkF m 168 (la0_12 p0 q1 q2 q3 r0_83 r0_96) [])) t
      refine XS.iload X6.here hx rfl (hb hby at_168) rfl ?_
      show Steps p.tables e below (T6.setTop (mkF m 170 (la0_12 p0 q1 q2 q3 r0_83 r0_96) [(.int (0 : Int32))])) t
      refine XS.ifYes X6.here hx rfl (pc0 := 170) (pc' := 178) rfl (hb hby at_170) rfl ((if0 _ _).trans (teq ((by decide))).1) (by decide) (by decide) ?_
      show Steps p.tables e below (T6.setTop (mkF m 178 (la0_12 p0 q1 q2 q3 r0_83 r0_96) [])) t
      refine XS.iload X6.here hx rfl (hb hby at_178) rfl ?_
      show Steps p.tables e below (T6.setTop (mkF m 180 (la0_12 p0 q1 q2 q3 r0_83 r0_96) [(.int (0 : Int32))])) t
      refine XS.istore X6.here hx rfl (hb hby at_180) rfl (l' := (la0_13 p0 q1 q2 q3 r0_83 r0_96)) rfl ?_
      show Steps p.tables e below (T6.setTop (mkF m 182 (la0_13 p0 q1 q2 q3 r0_83 r0_96) [])) t
      refine XS.aload X6.here hx rfl (hb hby at_182) rfl rfl ?_
      show Steps p.tables e below (T6.setTop (mkF m 184 (la0_13 p0 q1 q2 q3 r0_83 r0_96) [(.ref r0_83)])) t
      refine XS.aload X6.here hx rfl (hb hby at_184) rfl rfl ?_
      show Steps p.tables e below (T6.setTop (mkF m 186 (la0_13 p0 q1 q2 q3 r0_83 r0_96) [(.ref r0_96), (.ref r0_83)])) t
      exact k
    obtain ⟨_, _, ⟨T8, L8, k8, n8⟩, -, X8, ⟨Lc8, hQ8, l8, y8, z8⟩, st8⟩ := Jvm.LawKit.callS X6 hx (y := (⟨"com/example/assentor/assentor/check/Odometer", "before", "([I[I)Z"⟩ : MethodName)) hown (mvT hZ (hw _ (List.mem_of_getElem? (i := 5) rfl))) (mvT hZ (hw _ (List.mem_of_getElem? (i := 6) rfl))) (mvT hZ (hw _ (List.mem_of_getElem? (i := 7) rfl))) (mvT hZ (hw _ (List.mem_of_getElem? (i := 8) rfl))) (by decide) (backOf (W := 0) (rm2_0 l Z aZ hw [] r0_83 r0_96 T6.heap n0 Z6 fc7 u6_1) hZ (hw _ (List.mem_of_getElem? (i := 8) rfl)) (hw _ (List.mem_of_getElem? (i := 7) rfl)) (by decide) (by decide)) (g := (mkF m 186 (la0_13 p0 q1 q2 q3 r0_83 r0_96) [(.ref r0_96), (.ref r0_83)])) rfl (by rw [hml]; rfl) (argsL := [(.ref r0_83), (.ref r0_96)]) (rest := []) (lenOf pd___I_I_Z rfl) rfl (by show 2 * 0 + _ ≤ _; exact Nat.le_of_eq rfl) (hb hby at_186) (fun _ _ => ⟨rfl, rfl, (by decide : 2 + 0 ≤ _), (by decide : 0 + 0 ≤ _)⟩)
    dsimp only [Pt.U, Pt.locs, Pt.cells, Pt.slots] at X8 l8 y8 z8 st8 hQ8
    subst l8 y8 z8
    obtain ⟨rfl, N8q, e8⟩ := hQ8
    have N8 := Fr.app N6 N8q
    refine OEnd.go (g' := (mkF m 189 (la0_13 p0 q1 q2 q3 r0_83 r0_96) [(.int f2_0)])) st8 ?_
    refine OEnd.go (T' := T8) (g' := (mkF m 195 (la0_14 p0 q1 q2 q3 r0_83 r0_96) [(.ref r0_83), (.ref r0_96)])) (fun t k => ?_) ?_
    · show Steps p.tables e below (T8.setTop (mkF m 189 (la0_13 p0 q1 q2 q3 r0_83 r0_96) [(.int f2_0)])) t
      refine XS.istore X8.here hx rfl (hb hby at_189) rfl (l' := (la0_14 p0 q1 q2 q3 r0_83 r0_96)) rfl ?_
      show Steps p.tables e below (T8.setTop (mkF m 191 (la0_14 p0 q1 q2 q3 r0_83 r0_96) [])) t
      refine XS.aload X8.here hx rfl (hb hby at_191) rfl rfl ?_
      show Steps p.tables e below (T8.setTop (mkF m 193 (la0_14 p0 q1 q2 q3 r0_83 r0_96) [(.ref r0_96)])) t
      refine XS.aload X8.here hx rfl (hb hby at_193) rfl rfl ?_
      show Steps p.tables e below (T8.setTop (mkF m 195 (la0_14 p0 q1 q2 q3 r0_83 r0_96) [(.ref r0_83), (.ref r0_96)])) t
      exact k
    obtain ⟨_, _, ⟨T9, L9, k9, n9⟩, -, X9, ⟨Lc9, hQ9, l9, y9, z9⟩, st9⟩ := Jvm.LawKit.callS X8 hx (y := (⟨"com/example/assentor/assentor/check/Odometer", "before", "([I[I)Z"⟩ : MethodName)) hown (mvT hZ (hw _ (List.mem_of_getElem? (i := 5) rfl))) (mvT hZ (hw _ (List.mem_of_getElem? (i := 6) rfl))) (mvT hZ (hw _ (List.mem_of_getElem? (i := 7) rfl))) (mvT hZ (hw _ (List.mem_of_getElem? (i := 8) rfl))) (by decide) (backOf (W := 0) (rm2_0 l Z aZ hw [] r0_96 r0_83 T6.heap n0 Z6 u6_1 fc7) hZ (hw _ (List.mem_of_getElem? (i := 8) rfl)) (hw _ (List.mem_of_getElem? (i := 7) rfl)) (by decide) (by decide)) (g := (mkF m 195 (la0_14 p0 q1 q2 q3 r0_83 r0_96) [(.ref r0_83), (.ref r0_96)])) rfl (by rw [hml]; rfl) (argsL := [(.ref r0_96), (.ref r0_83)]) (rest := []) (lenOf pd___I_I_Z rfl) rfl (by show 2 * 0 + _ ≤ _; exact Nat.le_of_eq rfl) (hb hby at_195) (fun _ _ => ⟨rfl, e8, (by decide : 2 + 0 ≤ _), (by decide : 0 + 0 ≤ _)⟩)
    dsimp only [Pt.U, Pt.locs, Pt.cells, Pt.slots] at X9 l9 y9 z9 st9 hQ9
    subst l9 y9 z9
    obtain ⟨rfl, N9q, e9⟩ := hQ9
    have N9 := Fr.app N8 N9q
    refine OEnd.go (g' := (mkF m 198 (la0_14 p0 q1 q2 q3 r0_83 r0_96) [(.int f2_0)])) st9 ?_
    refine OEnd.go (T' := T9) (g' := (mkF m 212 (la0_15 p0 q1 q2 q3 r0_83 r0_96) [(.int (0 : Int32)), (.int f2_0)])) (fun t k => ?_) ?_
    · show Steps p.tables e below (T9.setTop (mkF m 198 (la0_14 p0 q1 q2 q3 r0_83 r0_96) [(.int f2_0)])) t
      refine XS.istore X9.here hx rfl (hb hby at_198) rfl (l' := (la0_15 p0 q1 q2 q3 r0_83 r0_96)) rfl ?_
      show Steps p.tables e below (T9.setTop (mkF m 200 (la0_15 p0 q1 q2 q3 r0_83 r0_96) [])) t
      refine XS.iload X9.here hx rfl (hb hby at_200) rfl ?_
      show Steps p.tables e below (T9.setTop (mkF m 202 (la0_15 p0 q1 q2 q3 r0_83 r0_96) [(.int f2_0)])) t
      refine XS.iload X9.here hx rfl (hb hby at_202) rfl ?_
      show Steps p.tables e below (T9.setTop (mkF m 204 (la0_15 p0 q1 q2 q3 r0_83 r0_96) [(.int (0 : Int32)), (.int f2_0)])) t
      refine XS.ifYes X9.here hx rfl (pc0 := 204) (pc' := 211) rfl (hb hby at_204) rfl ((if0 _ _).trans (flt ((by decide))).2.1) (by decide) (by decide) ?_
      show Steps p.tables e below (T9.setTop (mkF m 211 (la0_15 p0 q1 q2 q3 r0_83 r0_96) [(.int f2_0)])) t
      refine XS.iconst X9.here hx rfl (hb hby at_211) ?_
      show Steps p.tables e below (T9.setTop (mkF m 212 (la0_15 p0 q1 q2 q3 r0_83 r0_96) [(.int (0 : Int32)), (.int f2_0)])) t
      exact k
    refine OEnd.go (T' := T9) (g' := (mkF m 235 (la0_15 p0 q1 q2 q3 r0_83 r0_96) [(.int (if f2_0 = (0 : Int32) then (1 : Int32) else (0 : Int32)))])) (fun t k => ?_) ?_
    · show Steps p.tables e below (T9.setTop (mkF m 212 (la0_15 p0 q1 q2 q3 r0_83 r0_96) [(.int (0 : Int32)), (.int f2_0)])) t
      by_cases hc10 : f2_0 = (0 : Int32)
      · skip
        refine XS.icmpNo X9.here hx rfl (hb hby at_212) rfl (teq (hc10)).2 ?_
        show Steps p.tables e below (T9.setTop (mkF m 215 (la0_15 p0 q1 q2 q3 r0_83 r0_96) [])) t
        refine SGo.go (T' := T9) (g' := (mkF m 235 (la0_15 p0 q1 q2 q3 r0_83 r0_96) [(.int (1 : Int32))])) (fun t k => ?_) ?_
        · show Steps p.tables e below (T9.setTop (mkF m 215 (la0_15 p0 q1 q2 q3 r0_83 r0_96) [])) t
          refine XS.iload X9.here hx rfl (hb hby at_215) rfl ?_
          show Steps p.tables e below (T9.setTop (mkF m 217 (la0_15 p0 q1 q2 q3 r0_83 r0_96) [(.int f2_0)])) t
          refine XS.iload X9.here hx rfl (hb hby at_217) rfl ?_
          show Steps p.tables e below (T9.setTop (mkF m 219 (la0_15 p0 q1 q2 q3 r0_83 r0_96) [(.int (0 : Int32)), (.int f2_0)])) t
          refine XS.ifYes X9.here hx rfl (pc0 := 219) (pc' := 226) rfl (hb hby at_219) rfl ((if0 _ _).trans (flt ((by decide))).2.2.2) (by decide) (by decide) ?_
          show Steps p.tables e below (T9.setTop (mkF m 226 (la0_15 p0 q1 q2 q3 r0_83 r0_96) [(.int f2_0)])) t
          refine XS.iconst X9.here hx rfl (hb hby at_226) ?_
          show Steps p.tables e below (T9.setTop (mkF m 227 (la0_15 p0 q1 q2 q3 r0_83 r0_96) [(.int (0 : Int32)), (.int f2_0)])) t
          refine XS.icmpNo X9.here hx rfl (hb hby at_227) rfl (teq (hc10)).2 ?_
          show Steps p.tables e below (T9.setTop (mkF m 230 (la0_15 p0 q1 q2 q3 r0_83 r0_96) [])) t
          refine XS.iconst X9.here hx rfl (hb hby at_230) ?_
          show Steps p.tables e below (T9.setTop (mkF m 231 (la0_15 p0 q1 q2 q3 r0_83 r0_96) [(.int (1 : Int32))])) t
          refine XS.goto X9.here hx rfl (pc0 := 231) (pc' := 235) rfl (hb hby at_231) (by decide) (by decide) ?_
          show Steps p.tables e below (T9.setTop (mkF m 235 (la0_15 p0 q1 q2 q3 r0_83 r0_96) [(.int (1 : Int32))])) t
          exact k
        exact (own_k (f := fun (z : Int32) => mkF m 235 #[.val (.int p0), .val (.long q1), .second, .val (.long q2), .second, .val (.long q3), .second, .val (.int (0 : Int32)), .val (.int (v0_10 p0 q1 q2 q3)), .val (.int (v0_17 p0 q1 q2 q3)), .val (.int (v0_25 p0 q1 q2 q3)), .val (.int (v0_40 p0 q1 q2 q3)), .val (.int (v0_56 p0 q1 q2 q3)), .val (.int (v0_73 p0 q1 q2 q3)), .val (.ref r0_83), .val (.ref r0_96), .val (.int (0 : Int32)), .val (.int (0 : Int32)), .val (.int (0 : Int32)), .val (.int (0 : Int32)), .val (.int f2_0), .val (.int f2_0)] [(.int z)]) (if_pos hc10) k)
      · skip
        refine XS.icmpYes X9.here hx rfl (pc0 := 212) (pc' := 234) rfl (hb hby at_212) rfl (feq (hc10)).2 (by decide) (by decide) ?_
        show Steps p.tables e below (T9.setTop (mkF m 234 (la0_15 p0 q1 q2 q3 r0_83 r0_96) [])) t
        refine SGo.go (T' := T9) (g' := (mkF m 235 (la0_15 p0 q1 q2 q3 r0_83 r0_96) [(.int (0 : Int32))])) (fun t k => ?_) ?_
        · show Steps p.tables e below (T9.setTop (mkF m 234 (la0_15 p0 q1 q2 q3 r0_83 r0_96) [])) t
          refine XS.iconst X9.here hx rfl (hb hby at_234) ?_
          show Steps p.tables e below (T9.setTop (mkF m 235 (la0_15 p0 q1 q2 q3 r0_83 r0_96) [(.int (0 : Int32))])) t
          exact k
        exact (own_k (f := fun (z : Int32) => mkF m 235 #[.val (.int p0), .val (.long q1), .second, .val (.long q2), .second, .val (.long q3), .second, .val (.int (0 : Int32)), .val (.int (v0_10 p0 q1 q2 q3)), .val (.int (v0_17 p0 q1 q2 q3)), .val (.int (v0_25 p0 q1 q2 q3)), .val (.int (v0_40 p0 q1 q2 q3)), .val (.int (v0_56 p0 q1 q2 q3)), .val (.int (v0_73 p0 q1 q2 q3)), .val (.ref r0_83), .val (.ref r0_96), .val (.int (0 : Int32)), .val (.int (0 : Int32)), .val (.int (0 : Int32)), .val (.int (0 : Int32)), .val (.int f2_0), .val (.int f2_0)] [(.int z)]) (if_neg hc10) k)
    exact OEnd.nar X9 hx (t := .boolean) Bd.returns (by simp) hlk (hb hby at_235) ⟨(congrArg (fun z => some (Value.int (nar .boolean z))) (own_plain_0 p0 q1 q2 q3)), N9⟩ (by decide) (by decide)
  · skip
    refine OEnd.go (T' := s₁) (g' := (mkF m 75 (la0_16 p0 q1 q2 q3) [])) (fun t k => (own_k (f := fun (z : Int32) => mkF m 75 #[.val (.int p0), .val (.long q1), .second, .val (.long q2), .second, .val (.long q3), .second, .val (.int z), .val (.int (v0_10 p0 q1 q2 q3)), .val (.int (v0_17 p0 q1 q2 q3)), .val (.int (v0_25 p0 q1 q2 q3)), .val (.int (v0_40 p0 q1 q2 q3)), .val (.int (v0_56 p0 q1 q2 q3)), .val (.int (v0_73 p0 q1 q2 q3)), .unset, .unset, .unset, .unset, .unset, .unset, .unset, .unset] []) hs4.symm k)) ?_
    refine OEnd.go (T' := s₁) (g' := (mkF m 83 (la0_16 p0 q1 q2 q3) [(.int (v0_25 p0 q1 q2 q3)), (.int (v0_17 p0 q1 q2 q3)), (.int (v0_10 p0 q1 q2 q3)), (.int (1 : Int32))])) (fun t k => ?_) ?_
    · show Steps p.tables e below (s₁.setTop (mkF m 75 (la0_16 p0 q1 q2 q3) [])) t
      refine XS.iload X0.here hx rfl (hb hby at_75) rfl ?_
      show Steps p.tables e below (s₁.setTop (mkF m 77 (la0_16 p0 q1 q2 q3) [(.int (1 : Int32))])) t
      refine XS.iload X0.here hx rfl (hb hby at_77) rfl ?_
      show Steps p.tables e below (s₁.setTop (mkF m 79 (la0_16 p0 q1 q2 q3) [(.int (v0_10 p0 q1 q2 q3)), (.int (1 : Int32))])) t
      refine XS.iload X0.here hx rfl (hb hby at_79) rfl ?_
      show Steps p.tables e below (s₁.setTop (mkF m 81 (la0_16 p0 q1 q2 q3) [(.int (v0_17 p0 q1 q2 q3)), (.int (v0_10 p0 q1 q2 q3)), (.int (1 : Int32))])) t
      refine XS.iload X0.here hx rfl (hb hby at_81) rfl ?_
      show Steps p.tables e below (s₁.setTop (mkF m 83 (la0_16 p0 q1 q2 q3) [(.int (v0_25 p0 q1 q2 q3)), (.int (v0_17 p0 q1 q2 q3)), (.int (v0_10 p0 q1 q2 q3)), (.int (1 : Int32))])) t
      exact k
    obtain ⟨_, _, ⟨T11, L11, k11, n11⟩, -, X11, ⟨Lc11, hQ11, l11, y11, z11⟩, st11⟩ := Jvm.LawKit.callS X0 hx (y := (⟨"com/example/assentor/assentor/check/OdometerBeforePinLaw", "mk", "(IIII)[I"⟩ : MethodName)) hown (mvT hZ (hw _ (List.mem_of_getElem? (i := 0) rfl))) (mvT hZ (hw _ (List.mem_of_getElem? (i := 1) rfl))) (mvT hZ (hw _ (List.mem_of_getElem? (i := 2) rfl))) (mvT hZ (hw _ (List.mem_of_getElem? (i := 3) rfl))) (by decide) (backOf (W := 0) (rm1_1 l Z aZ hw [] (v0_10 p0 q1 q2 q3) (v0_17 p0 q1 q2 q3) (v0_25 p0 q1 q2 q3) h0 n0 Z0 ) hZ (hw _ (List.mem_of_getElem? (i := 3) rfl)) (hw _ (List.mem_of_getElem? (i := 2) rfl)) (by decide) (by decide)) (g := (mkF m 83 (la0_16 p0 q1 q2 q3) [(.int (v0_25 p0 q1 q2 q3)), (.int (v0_17 p0 q1 q2 q3)), (.int (v0_10 p0 q1 q2 q3)), (.int (1 : Int32))])) rfl (by rw [hml]; rfl) (argsL := [(.int (1 : Int32)), (.int (v0_10 p0 q1 q2 q3)), (.int (v0_17 p0 q1 q2 q3)), (.int (v0_25 p0 q1 q2 q3))]) (rest := []) (lenOf pd__IIII__I rfl) rfl (by show 2 * 0 + _ ≤ _; exact Nat.le_of_eq rfl) (hb hby at_83) (fun _ _ => ⟨rfl, e0, (by decide : 0 + 1 ≤ _), (by decide : 0 + 1 ≤ _)⟩)
    dsimp only [Pt.U, Pt.locs, Pt.cells, Pt.slots] at X11 l11 y11 z11 st11 hQ11
    subst l11 y11 z11
    obtain ⟨r0_83, rfl, gle_r0_83, sz_r0_83', N11q, u11_0, u11_1⟩ := hQ11
    have N11 := Fr.app N0 N11q
    have Z11 : n0 ≤ T11.heap.size := Nat.le_trans Z0 u11_0.1
    refine OEnd.go (g' := (mkF m 86 (la0_16 p0 q1 q2 q3) [(.ref r0_83)])) st11 ?_
    refine OEnd.go (T' := T11) (g' := (mkF m 96 (la0_17 p0 q1 q2 q3 r0_83) [(.int (v0_73 p0 q1 q2 q3)), (.int (v0_56 p0 q1 q2 q3)), (.int (v0_40 p0 q1 q2 q3)), (.int (1 : Int32))])) (fun t k => ?_) ?_
    · show Steps p.tables e below (T11.setTop (mkF m 86 (la0_16 p0 q1 q2 q3) [(.ref r0_83)])) t
      refine XS.astore X11.here hx rfl (hb hby at_86) rfl rfl (l' := (la0_17 p0 q1 q2 q3 r0_83)) rfl ?_
      show Steps p.tables e below (T11.setTop (mkF m 88 (la0_17 p0 q1 q2 q3 r0_83) [])) t
      refine XS.iload X11.here hx rfl (hb hby at_88) rfl ?_
      show Steps p.tables e below (T11.setTop (mkF m 90 (la0_17 p0 q1 q2 q3 r0_83) [(.int (1 : Int32))])) t
      refine XS.iload X11.here hx rfl (hb hby at_90) rfl ?_
      show Steps p.tables e below (T11.setTop (mkF m 92 (la0_17 p0 q1 q2 q3 r0_83) [(.int (v0_40 p0 q1 q2 q3)), (.int (1 : Int32))])) t
      refine XS.iload X11.here hx rfl (hb hby at_92) rfl ?_
      show Steps p.tables e below (T11.setTop (mkF m 94 (la0_17 p0 q1 q2 q3 r0_83) [(.int (v0_56 p0 q1 q2 q3)), (.int (v0_40 p0 q1 q2 q3)), (.int (1 : Int32))])) t
      refine XS.iload X11.here hx rfl (hb hby at_94) rfl ?_
      show Steps p.tables e below (T11.setTop (mkF m 96 (la0_17 p0 q1 q2 q3 r0_83) [(.int (v0_73 p0 q1 q2 q3)), (.int (v0_56 p0 q1 q2 q3)), (.int (v0_40 p0 q1 q2 q3)), (.int (1 : Int32))])) t
      exact k
    obtain ⟨_, _, ⟨T12, L12, k12, n12⟩, -, X12, ⟨Lc12, hQ12, l12, y12, z12⟩, st12⟩ := Jvm.LawKit.callS X11 hx (y := (⟨"com/example/assentor/assentor/check/OdometerBeforePinLaw", "mk", "(IIII)[I"⟩ : MethodName)) hown (mvT hZ (hw _ (List.mem_of_getElem? (i := 0) rfl))) (mvT hZ (hw _ (List.mem_of_getElem? (i := 1) rfl))) (mvT hZ (hw _ (List.mem_of_getElem? (i := 2) rfl))) (mvT hZ (hw _ (List.mem_of_getElem? (i := 3) rfl))) (by decide) (backOf (W := 0) (rm1_1 l Z aZ hw [] (v0_40 p0 q1 q2 q3) (v0_56 p0 q1 q2 q3) (v0_73 p0 q1 q2 q3) T11.heap n0 Z11 ) hZ (hw _ (List.mem_of_getElem? (i := 3) rfl)) (hw _ (List.mem_of_getElem? (i := 2) rfl)) (by decide) (by decide)) (g := (mkF m 96 (la0_17 p0 q1 q2 q3 r0_83) [(.int (v0_73 p0 q1 q2 q3)), (.int (v0_56 p0 q1 q2 q3)), (.int (v0_40 p0 q1 q2 q3)), (.int (1 : Int32))])) rfl (by rw [hml]; rfl) (argsL := [(.int (1 : Int32)), (.int (v0_40 p0 q1 q2 q3)), (.int (v0_56 p0 q1 q2 q3)), (.int (v0_73 p0 q1 q2 q3))]) (rest := []) (lenOf pd__IIII__I rfl) rfl (by show 2 * 0 + _ ≤ _; exact Nat.le_of_eq rfl) (hb hby at_96) (fun _ _ => ⟨rfl, rfl, (by decide : 1 + 1 ≤ _), (by decide : 1 + 1 ≤ _)⟩)
    dsimp only [Pt.U, Pt.locs, Pt.cells, Pt.slots] at X12 l12 y12 z12 st12 hQ12
    subst l12 y12 z12
    obtain ⟨r0_96, rfl, gle_r0_96, sz_r0_96', N12q, u12_0, u12_1⟩ := hQ12
    have ne_r0_83_r0_96 : r0_83 ≠ r0_96 := Nat.ne_of_lt (Nat.lt_of_lt_of_le u11_1.lt sz_r0_96')
    have N12 := Fr.app N11 N12q
    have Z12 : n0 ≤ T12.heap.size := Nat.le_trans Z11 u12_0.1
    have fc13 : OArr Z T12.heap r0_83 .int (1 : Int32) [(.int (v0_10 p0 q1 q2 q3))] (.int (0 : Int32)) := (u11_1.keep u12_0 nin0)
    refine OEnd.go (g' := (mkF m 99 (la0_17 p0 q1 q2 q3 r0_83) [(.ref r0_96)])) st12 ?_
    refine OEnd.go (T' := T12) (g' := (mkF m 149 (la0_20 p0 q1 q2 q3 r0_83 r0_96) [(.int (v0_40 p0 q1 q2 q3)), (.int (v0_10 p0 q1 q2 q3))])) (fun t k => ?_) ?_
    · show Steps p.tables e below (T12.setTop (mkF m 99 (la0_17 p0 q1 q2 q3 r0_83) [(.ref r0_96)])) t
      refine XS.astore X12.here hx rfl (hb hby at_99) rfl rfl (l' := (la0_18 p0 q1 q2 q3 r0_83 r0_96)) rfl ?_
      show Steps p.tables e below (T12.setTop (mkF m 101 (la0_18 p0 q1 q2 q3 r0_83 r0_96) [])) t
      refine XS.iload X12.here hx rfl (hb hby at_101) rfl ?_
      show Steps p.tables e below (T12.setTop (mkF m 103 (la0_18 p0 q1 q2 q3 r0_83 r0_96) [(.int (1 : Int32))])) t
      refine XS.iconst X12.here hx rfl (hb hby at_103) ?_
      show Steps p.tables e below (T12.setTop (mkF m 104 (la0_18 p0 q1 q2 q3 r0_83 r0_96) [(.int (3 : Int32)), (.int (1 : Int32))])) t
      refine XS.icmpYes X12.here hx rfl (pc0 := 104) (pc' := 117) rfl (hb hby at_104) rfl (tlt ((by decide))).1 (by decide) (by decide) ?_
      show Steps p.tables e below (T12.setTop (mkF m 117 (la0_18 p0 q1 q2 q3 r0_83 r0_96) [])) t
      refine XS.iconst X12.here hx rfl (hb hby at_117) ?_
      show Steps p.tables e below (T12.setTop (mkF m 118 (la0_18 p0 q1 q2 q3 r0_83 r0_96) [(.int (0 : Int32))])) t
      refine XS.istore X12.here hx rfl (hb hby at_118) rfl (l' := (la0_19 p0 q1 q2 q3 r0_83 r0_96)) rfl ?_
      show Steps p.tables e below (T12.setTop (mkF m 120 (la0_19 p0 q1 q2 q3 r0_83 r0_96) [])) t
      refine XS.iload X12.here hx rfl (hb hby at_120) rfl ?_
      show Steps p.tables e below (T12.setTop (mkF m 122 (la0_19 p0 q1 q2 q3 r0_83 r0_96) [(.int (1 : Int32))])) t
      refine XS.iconst X12.here hx rfl (hb hby at_122) ?_
      show Steps p.tables e below (T12.setTop (mkF m 123 (la0_19 p0 q1 q2 q3 r0_83 r0_96) [(.int (2 : Int32)), (.int (1 : Int32))])) t
      refine XS.icmpYes X12.here hx rfl (pc0 := 123) (pc' := 136) rfl (hb hby at_123) rfl (tlt ((by decide))).1 (by decide) (by decide) ?_
      show Steps p.tables e below (T12.setTop (mkF m 136 (la0_19 p0 q1 q2 q3 r0_83 r0_96) [])) t
      refine XS.iconst X12.here hx rfl (hb hby at_136) ?_
      show Steps p.tables e below (T12.setTop (mkF m 137 (la0_19 p0 q1 q2 q3 r0_83 r0_96) [(.int (0 : Int32))])) t
      refine XS.istore X12.here hx rfl (hb hby at_137) rfl (l' := (la0_20 p0 q1 q2 q3 r0_83 r0_96)) rfl ?_
      show Steps p.tables e below (T12.setTop (mkF m 139 (la0_20 p0 q1 q2 q3 r0_83 r0_96) [])) t
      refine XS.iload X12.here hx rfl (hb hby at_139) rfl ?_
      show Steps p.tables e below (T12.setTop (mkF m 141 (la0_20 p0 q1 q2 q3 r0_83 r0_96) [(.int (1 : Int32))])) t
      refine XS.iconst X12.here hx rfl (hb hby at_141) ?_
      show Steps p.tables e below (T12.setTop (mkF m 142 (la0_20 p0 q1 q2 q3 r0_83 r0_96) [(.int (1 : Int32)), (.int (1 : Int32))])) t
      refine XS.icmpNo X12.here hx rfl (hb hby at_142) rfl (flt ((by decide))).1 ?_
      show Steps p.tables e below (T12.setTop (mkF m 145 (la0_20 p0 q1 q2 q3 r0_83 r0_96) [])) t
      refine XS.iload X12.here hx rfl (hb hby at_145) rfl ?_
      show Steps p.tables e below (T12.setTop (mkF m 147 (la0_20 p0 q1 q2 q3 r0_83 r0_96) [(.int (v0_10 p0 q1 q2 q3))])) t
      refine XS.iload X12.here hx rfl (hb hby at_147) rfl ?_
      show Steps p.tables e below (T12.setTop (mkF m 149 (la0_20 p0 q1 q2 q3 r0_83 r0_96) [(.int (v0_40 p0 q1 q2 q3)), (.int (v0_10 p0 q1 q2 q3))])) t
      exact k
    obtain ⟨_, _, ⟨T14, L14, k14, n14⟩, -, X14, ⟨Lc14, hQ14, l14, y14, z14⟩, st14⟩ := Jvm.LawKit.callS X12 hx (y := (⟨"com/example/assentor/assentor/check/OdometerBeforePinLaw", "sign", "(II)I"⟩ : MethodName)) hown (mvT hZ (hw _ (List.mem_of_getElem? (i := 9) rfl))) (mvT hZ (hw _ (List.mem_of_getElem? (i := 10) rfl))) (mvT hZ (hw _ (List.mem_of_getElem? (i := 2) rfl))) (mvT hZ (hw _ (List.mem_of_getElem? (i := 11) rfl))) (by decide) (backOf (W := 0) (rm3 l Z aZ hw [] (v0_10 p0 q1 q2 q3) (v0_40 p0 q1 q2 q3) T12.heap n0 Z12 ) hZ (hw _ (List.mem_of_getElem? (i := 11) rfl)) (hw _ (List.mem_of_getElem? (i := 2) rfl)) (by decide) (by decide)) (g := (mkF m 149 (la0_20 p0 q1 q2 q3 r0_83 r0_96) [(.int (v0_40 p0 q1 q2 q3)), (.int (v0_10 p0 q1 q2 q3))])) rfl (by rw [hml]; rfl) (argsL := [(.int (v0_10 p0 q1 q2 q3)), (.int (v0_40 p0 q1 q2 q3))]) (rest := []) (lenOf pd__II_I rfl) rfl (by show 2 * 0 + _ ≤ _; exact Nat.le_of_eq rfl) (hb hby at_149) (fun _ _ => ⟨rfl, rfl, (by decide : 2 + 0 ≤ _), (by decide : 2 + 0 ≤ _)⟩)
    dsimp only [Pt.U, Pt.locs, Pt.cells, Pt.slots] at X14 l14 y14 z14 st14 hQ14
    subst l14 y14 z14
    obtain ⟨rfl, N14q, e14⟩ := hQ14
    have N14 := Fr.app N12 N14q
    refine OEnd.go (g' := (mkF m 152 (la0_20 p0 q1 q2 q3 r0_83 r0_96) [(.int (f3 (v0_10 p0 q1 q2 q3) (v0_40 p0 q1 q2 q3)))])) st14 ?_
    refine OEnd.go (T' := T14) (g' := (mkF m 186 (la0_22 p0 q1 q2 q3 r0_83 r0_96) [(.ref r0_96), (.ref r0_83)])) (fun t k => ?_) ?_
    · show Steps p.tables e below (T14.setTop (mkF m 152 (la0_20 p0 q1 q2 q3 r0_83 r0_96) [(.int (f3 (v0_10 p0 q1 q2 q3) (v0_40 p0 q1 q2 q3)))])) t
      refine XS.goto X14.here hx rfl (pc0 := 152) (pc' := 156) rfl (hb hby at_152) (by decide) (by decide) ?_
      show Steps p.tables e below (T14.setTop (mkF m 156 (la0_20 p0 q1 q2 q3 r0_83 r0_96) [(.int (f3 (v0_10 p0 q1 q2 q3) (v0_40 p0 q1 q2 q3)))])) t
      refine XS.istore X14.here hx rfl (hb hby at_156) rfl (l' := (la0_21 p0 q1 q2 q3 r0_83 r0_96)) rfl ?_
      show Steps p.tables e below (T14.setTop (mkF m 158 (la0_21 p0 q1 q2 q3 r0_83 r0_96) [])) t
      refine XS.iload X14.here hx rfl (hb hby at_158) rfl ?_
      show Steps p.tables e below (T14.setTop (mkF m 160 (la0_21 p0 q1 q2 q3 r0_83 r0_96) [(.int (0 : Int32))])) t
      refine XS.ifYes X14.here hx rfl (pc0 := 160) (pc' := 168) rfl (hb hby at_160) rfl ((if0 _ _).trans (teq ((by decide))).1) (by decide) (by decide) ?_
      show Steps p.tables e below (T14.setTop (mkF m 168 (la0_21 p0 q1 q2 q3 r0_83 r0_96) [])) t
      refine XS.iload X14.here hx rfl (hb hby at_168) rfl ?_
      show Steps p.tables e below (T14.setTop (mkF m 170 (la0_21 p0 q1 q2 q3 r0_83 r0_96) [(.int (0 : Int32))])) t
      refine XS.ifYes X14.here hx rfl (pc0 := 170) (pc' := 178) rfl (hb hby at_170) rfl ((if0 _ _).trans (teq ((by decide))).1) (by decide) (by decide) ?_
      show Steps p.tables e below (T14.setTop (mkF m 178 (la0_21 p0 q1 q2 q3 r0_83 r0_96) [])) t
      refine XS.iload X14.here hx rfl (hb hby at_178) rfl ?_
      show Steps p.tables e below (T14.setTop (mkF m 180 (la0_21 p0 q1 q2 q3 r0_83 r0_96) [(.int (v0_156 p0 q1 q2 q3))])) t
      refine XS.istore X14.here hx rfl (hb hby at_180) rfl (l' := (la0_22 p0 q1 q2 q3 r0_83 r0_96)) rfl ?_
      show Steps p.tables e below (T14.setTop (mkF m 182 (la0_22 p0 q1 q2 q3 r0_83 r0_96) [])) t
      refine XS.aload X14.here hx rfl (hb hby at_182) rfl rfl ?_
      show Steps p.tables e below (T14.setTop (mkF m 184 (la0_22 p0 q1 q2 q3 r0_83 r0_96) [(.ref r0_83)])) t
      refine XS.aload X14.here hx rfl (hb hby at_184) rfl rfl ?_
      show Steps p.tables e below (T14.setTop (mkF m 186 (la0_22 p0 q1 q2 q3 r0_83 r0_96) [(.ref r0_96), (.ref r0_83)])) t
      exact k
    obtain ⟨_, _, ⟨T15, L15, k15, n15⟩, -, X15, ⟨Lc15, hQ15, l15, y15, z15⟩, st15⟩ := Jvm.LawKit.callS X14 hx (y := (⟨"com/example/assentor/assentor/check/Odometer", "before", "([I[I)Z"⟩ : MethodName)) hown (mvT hZ (hw _ (List.mem_of_getElem? (i := 5) rfl))) (mvT hZ (hw _ (List.mem_of_getElem? (i := 6) rfl))) (mvT hZ (hw _ (List.mem_of_getElem? (i := 7) rfl))) (mvT hZ (hw _ (List.mem_of_getElem? (i := 8) rfl))) (by decide) (backOf (W := 0) (rm2_1 l Z aZ hw [] r0_83 r0_96 (v0_10 p0 q1 q2 q3) (v0_40 p0 q1 q2 q3) T12.heap n0 Z12 fc13 u12_1) hZ (hw _ (List.mem_of_getElem? (i := 8) rfl)) (hw _ (List.mem_of_getElem? (i := 7) rfl)) (by decide) (by decide)) (g := (mkF m 186 (la0_22 p0 q1 q2 q3 r0_83 r0_96) [(.ref r0_96), (.ref r0_83)])) rfl (by rw [hml]; rfl) (argsL := [(.ref r0_83), (.ref r0_96)]) (rest := []) (lenOf pd___I_I_Z rfl) rfl (by show 2 * 0 + _ ≤ _; exact Nat.le_of_eq rfl) (hb hby at_186) (fun _ _ => ⟨rfl, e14, (by decide : 2 + 0 ≤ _), (by decide : 2 + 0 ≤ _)⟩)
    dsimp only [Pt.U, Pt.locs, Pt.cells, Pt.slots] at X15 l15 y15 z15 st15 hQ15
    subst l15 y15 z15
    obtain ⟨rfl, N15q, e15⟩ := hQ15
    have N15 := Fr.app N14 N15q
    refine OEnd.go (g' := (mkF m 189 (la0_22 p0 q1 q2 q3 r0_83 r0_96) [(.int (f2_1 (v0_10 p0 q1 q2 q3) (v0_40 p0 q1 q2 q3)))])) st15 ?_
    refine OEnd.go (T' := T15) (g' := (mkF m 195 (la0_23 p0 q1 q2 q3 r0_83 r0_96) [(.ref r0_83), (.ref r0_96)])) (fun t k => ?_) ?_
    · show Steps p.tables e below (T15.setTop (mkF m 189 (la0_22 p0 q1 q2 q3 r0_83 r0_96) [(.int (f2_1 (v0_10 p0 q1 q2 q3) (v0_40 p0 q1 q2 q3)))])) t
      refine XS.istore X15.here hx rfl (hb hby at_189) rfl (l' := (la0_23 p0 q1 q2 q3 r0_83 r0_96)) rfl ?_
      show Steps p.tables e below (T15.setTop (mkF m 191 (la0_23 p0 q1 q2 q3 r0_83 r0_96) [])) t
      refine XS.aload X15.here hx rfl (hb hby at_191) rfl rfl ?_
      show Steps p.tables e below (T15.setTop (mkF m 193 (la0_23 p0 q1 q2 q3 r0_83 r0_96) [(.ref r0_96)])) t
      refine XS.aload X15.here hx rfl (hb hby at_193) rfl rfl ?_
      show Steps p.tables e below (T15.setTop (mkF m 195 (la0_23 p0 q1 q2 q3 r0_83 r0_96) [(.ref r0_83), (.ref r0_96)])) t
      exact k
    obtain ⟨_, _, ⟨T16, L16, k16, n16⟩, -, X16, ⟨Lc16, hQ16, l16, y16, z16⟩, st16⟩ := Jvm.LawKit.callS X15 hx (y := (⟨"com/example/assentor/assentor/check/Odometer", "before", "([I[I)Z"⟩ : MethodName)) hown (mvT hZ (hw _ (List.mem_of_getElem? (i := 5) rfl))) (mvT hZ (hw _ (List.mem_of_getElem? (i := 6) rfl))) (mvT hZ (hw _ (List.mem_of_getElem? (i := 7) rfl))) (mvT hZ (hw _ (List.mem_of_getElem? (i := 8) rfl))) (by decide) (backOf (W := 0) (rm2_1 l Z aZ hw [] r0_96 r0_83 (v0_40 p0 q1 q2 q3) (v0_10 p0 q1 q2 q3) T12.heap n0 Z12 u12_1 fc13) hZ (hw _ (List.mem_of_getElem? (i := 8) rfl)) (hw _ (List.mem_of_getElem? (i := 7) rfl)) (by decide) (by decide)) (g := (mkF m 195 (la0_23 p0 q1 q2 q3 r0_83 r0_96) [(.ref r0_83), (.ref r0_96)])) rfl (by rw [hml]; rfl) (argsL := [(.ref r0_96), (.ref r0_83)]) (rest := []) (lenOf pd___I_I_Z rfl) rfl (by show 2 * 0 + _ ≤ _; exact Nat.le_of_eq rfl) (hb hby at_195) (fun _ _ => ⟨rfl, e15, (by decide : 2 + 0 ≤ _), (by decide : 2 + 0 ≤ _)⟩)
    dsimp only [Pt.U, Pt.locs, Pt.cells, Pt.slots] at X16 l16 y16 z16 st16 hQ16
    subst l16 y16 z16
    obtain ⟨rfl, N16q, e16⟩ := hQ16
    have N16 := Fr.app N15 N16q
    refine OEnd.go (g' := (mkF m 198 (la0_23 p0 q1 q2 q3 r0_83 r0_96) [(.int (f2_1 (v0_40 p0 q1 q2 q3) (v0_10 p0 q1 q2 q3)))])) st16 ?_
    refine OEnd.go (T' := T16) (g' := (mkF m 204 (la0_24 p0 q1 q2 q3 r0_83 r0_96) [(.int (v0_156 p0 q1 q2 q3)), (.int (v0_189 p0 q1 q2 q3))])) (fun t k => ?_) ?_
    · show Steps p.tables e below (T16.setTop (mkF m 198 (la0_23 p0 q1 q2 q3 r0_83 r0_96) [(.int (f2_1 (v0_40 p0 q1 q2 q3) (v0_10 p0 q1 q2 q3)))])) t
      refine XS.istore X16.here hx rfl (hb hby at_198) rfl (l' := (la0_24 p0 q1 q2 q3 r0_83 r0_96)) rfl ?_
      show Steps p.tables e below (T16.setTop (mkF m 200 (la0_24 p0 q1 q2 q3 r0_83 r0_96) [])) t
      refine XS.iload X16.here hx rfl (hb hby at_200) rfl ?_
      show Steps p.tables e below (T16.setTop (mkF m 202 (la0_24 p0 q1 q2 q3 r0_83 r0_96) [(.int (v0_189 p0 q1 q2 q3))])) t
      refine XS.iload X16.here hx rfl (hb hby at_202) rfl ?_
      show Steps p.tables e below (T16.setTop (mkF m 204 (la0_24 p0 q1 q2 q3 r0_83 r0_96) [(.int (v0_156 p0 q1 q2 q3)), (.int (v0_189 p0 q1 q2 q3))])) t
      exact k
    refine OEnd.go (T' := T16) (g' := (mkF m 212 (la0_24 p0 q1 q2 q3 r0_83 r0_96) [(.int (if (v0_156 p0 q1 q2 q3) < (0 : Int32) then (1 : Int32) else (0 : Int32))), (.int (v0_189 p0 q1 q2 q3))])) (fun t k => ?_) ?_
    · show Steps p.tables e below (T16.setTop (mkF m 204 (la0_24 p0 q1 q2 q3 r0_83 r0_96) [(.int (v0_156 p0 q1 q2 q3)), (.int (v0_189 p0 q1 q2 q3))])) t
      by_cases hc17 : (v0_156 p0 q1 q2 q3) < (0 : Int32)
      · skip
        refine XS.ifNo X16.here hx rfl (hb hby at_204) rfl ((if0 _ _).trans (tlt (hc17)).2.1) ?_
        show Steps p.tables e below (T16.setTop (mkF m 207 (la0_24 p0 q1 q2 q3 r0_83 r0_96) [(.int (v0_189 p0 q1 q2 q3))])) t
        refine SGo.go (T' := T16) (g' := (mkF m 212 (la0_24 p0 q1 q2 q3 r0_83 r0_96) [(.int (1 : Int32)), (.int (v0_189 p0 q1 q2 q3))])) (fun t k => ?_) ?_
        · show Steps p.tables e below (T16.setTop (mkF m 207 (la0_24 p0 q1 q2 q3 r0_83 r0_96) [(.int (v0_189 p0 q1 q2 q3))])) t
          refine XS.iconst X16.here hx rfl (hb hby at_207) ?_
          show Steps p.tables e below (T16.setTop (mkF m 208 (la0_24 p0 q1 q2 q3 r0_83 r0_96) [(.int (1 : Int32)), (.int (v0_189 p0 q1 q2 q3))])) t
          refine XS.goto X16.here hx rfl (pc0 := 208) (pc' := 212) rfl (hb hby at_208) (by decide) (by decide) ?_
          show Steps p.tables e below (T16.setTop (mkF m 212 (la0_24 p0 q1 q2 q3 r0_83 r0_96) [(.int (1 : Int32)), (.int (v0_189 p0 q1 q2 q3))])) t
          exact k
        exact (own_k (f := fun (z : Int32) => mkF m 212 #[.val (.int p0), .val (.long q1), .second, .val (.long q2), .second, .val (.long q3), .second, .val (.int (1 : Int32)), .val (.int (v0_10 p0 q1 q2 q3)), .val (.int (v0_17 p0 q1 q2 q3)), .val (.int (v0_25 p0 q1 q2 q3)), .val (.int (v0_40 p0 q1 q2 q3)), .val (.int (v0_56 p0 q1 q2 q3)), .val (.int (v0_73 p0 q1 q2 q3)), .val (.ref r0_83), .val (.ref r0_96), .val (.int (0 : Int32)), .val (.int (0 : Int32)), .val (.int (v0_156 p0 q1 q2 q3)), .val (.int (v0_156 p0 q1 q2 q3)), .val (.int (v0_189 p0 q1 q2 q3)), .val (.int (v0_198 p0 q1 q2 q3))] [(.int z), (.int (v0_189 p0 q1 q2 q3))]) (if_pos hc17) k)
      · skip
        refine XS.ifYes X16.here hx rfl (pc0 := 204) (pc' := 211) rfl (hb hby at_204) rfl ((if0 _ _).trans (flt (hc17)).2.1) (by decide) (by decide) ?_
        show Steps p.tables e below (T16.setTop (mkF m 211 (la0_24 p0 q1 q2 q3 r0_83 r0_96) [(.int (v0_189 p0 q1 q2 q3))])) t
        refine SGo.go (T' := T16) (g' := (mkF m 212 (la0_24 p0 q1 q2 q3 r0_83 r0_96) [(.int (0 : Int32)), (.int (v0_189 p0 q1 q2 q3))])) (fun t k => ?_) ?_
        · show Steps p.tables e below (T16.setTop (mkF m 211 (la0_24 p0 q1 q2 q3 r0_83 r0_96) [(.int (v0_189 p0 q1 q2 q3))])) t
          refine XS.iconst X16.here hx rfl (hb hby at_211) ?_
          show Steps p.tables e below (T16.setTop (mkF m 212 (la0_24 p0 q1 q2 q3 r0_83 r0_96) [(.int (0 : Int32)), (.int (v0_189 p0 q1 q2 q3))])) t
          exact k
        exact (own_k (f := fun (z : Int32) => mkF m 212 #[.val (.int p0), .val (.long q1), .second, .val (.long q2), .second, .val (.long q3), .second, .val (.int (1 : Int32)), .val (.int (v0_10 p0 q1 q2 q3)), .val (.int (v0_17 p0 q1 q2 q3)), .val (.int (v0_25 p0 q1 q2 q3)), .val (.int (v0_40 p0 q1 q2 q3)), .val (.int (v0_56 p0 q1 q2 q3)), .val (.int (v0_73 p0 q1 q2 q3)), .val (.ref r0_83), .val (.ref r0_96), .val (.int (0 : Int32)), .val (.int (0 : Int32)), .val (.int (v0_156 p0 q1 q2 q3)), .val (.int (v0_156 p0 q1 q2 q3)), .val (.int (v0_189 p0 q1 q2 q3)), .val (.int (v0_198 p0 q1 q2 q3))] [(.int z), (.int (v0_189 p0 q1 q2 q3))]) (if_neg hc17) k)
    refine OEnd.go (T' := T16) (g' := (mkF m 235 (la0_24 p0 q1 q2 q3 r0_83 r0_96) [(.int (if (v0_189 p0 q1 q2 q3) = (v0_212_s0 p0 q1 q2 q3) then (if (v0_198 p0 q1 q2 q3) = (v0_227_s0 p0 q1 q2 q3) then (1 : Int32) else (0 : Int32)) else (0 : Int32)))])) (fun t k => ?_) ?_
    · show Steps p.tables e below (T16.setTop (mkF m 212 (la0_24 p0 q1 q2 q3 r0_83 r0_96) [(.int (v0_212_s0 p0 q1 q2 q3)), (.int (v0_189 p0 q1 q2 q3))])) t
      by_cases hc18 : (v0_189 p0 q1 q2 q3) = (v0_212_s0 p0 q1 q2 q3)
      · skip
        refine XS.icmpNo X16.here hx rfl (hb hby at_212) rfl (teq (hc18)).2 ?_
        show Steps p.tables e below (T16.setTop (mkF m 215 (la0_24 p0 q1 q2 q3 r0_83 r0_96) [])) t
        refine SGo.go (T' := T16) (g' := (mkF m 219 (la0_24 p0 q1 q2 q3 r0_83 r0_96) [(.int (v0_156 p0 q1 q2 q3)), (.int (v0_198 p0 q1 q2 q3))])) (fun t k => ?_) ?_
        · show Steps p.tables e below (T16.setTop (mkF m 215 (la0_24 p0 q1 q2 q3 r0_83 r0_96) [])) t
          refine XS.iload X16.here hx rfl (hb hby at_215) rfl ?_
          show Steps p.tables e below (T16.setTop (mkF m 217 (la0_24 p0 q1 q2 q3 r0_83 r0_96) [(.int (v0_198 p0 q1 q2 q3))])) t
          refine XS.iload X16.here hx rfl (hb hby at_217) rfl ?_
          show Steps p.tables e below (T16.setTop (mkF m 219 (la0_24 p0 q1 q2 q3 r0_83 r0_96) [(.int (v0_156 p0 q1 q2 q3)), (.int (v0_198 p0 q1 q2 q3))])) t
          exact k
        refine SGo.go (T' := T16) (g' := (mkF m 227 (la0_24 p0 q1 q2 q3 r0_83 r0_96) [(.int (if (0 : Int32) < (v0_156 p0 q1 q2 q3) then (1 : Int32) else (0 : Int32))), (.int (v0_198 p0 q1 q2 q3))])) (fun t k => ?_) ?_
        · show Steps p.tables e below (T16.setTop (mkF m 219 (la0_24 p0 q1 q2 q3 r0_83 r0_96) [(.int (v0_156 p0 q1 q2 q3)), (.int (v0_198 p0 q1 q2 q3))])) t
          by_cases hc19 : (0 : Int32) < (v0_156 p0 q1 q2 q3)
          · skip
            refine XS.ifNo X16.here hx rfl (hb hby at_219) rfl ((if0 _ _).trans (tlt (hc19)).2.2.2) ?_
            show Steps p.tables e below (T16.setTop (mkF m 222 (la0_24 p0 q1 q2 q3 r0_83 r0_96) [(.int (v0_198 p0 q1 q2 q3))])) t
            refine SGo.go (T' := T16) (g' := (mkF m 227 (la0_24 p0 q1 q2 q3 r0_83 r0_96) [(.int (1 : Int32)), (.int (v0_198 p0 q1 q2 q3))])) (fun t k => ?_) ?_
            · show Steps p.tables e below (T16.setTop (mkF m 222 (la0_24 p0 q1 q2 q3 r0_83 r0_96) [(.int (v0_198 p0 q1 q2 q3))])) t
              refine XS.iconst X16.here hx rfl (hb hby at_222) ?_
              show Steps p.tables e below (T16.setTop (mkF m 223 (la0_24 p0 q1 q2 q3 r0_83 r0_96) [(.int (1 : Int32)), (.int (v0_198 p0 q1 q2 q3))])) t
              refine XS.goto X16.here hx rfl (pc0 := 223) (pc' := 227) rfl (hb hby at_223) (by decide) (by decide) ?_
              show Steps p.tables e below (T16.setTop (mkF m 227 (la0_24 p0 q1 q2 q3 r0_83 r0_96) [(.int (1 : Int32)), (.int (v0_198 p0 q1 q2 q3))])) t
              exact k
            exact (own_k (f := fun (z : Int32) => mkF m 227 #[.val (.int p0), .val (.long q1), .second, .val (.long q2), .second, .val (.long q3), .second, .val (.int (1 : Int32)), .val (.int (v0_10 p0 q1 q2 q3)), .val (.int (v0_17 p0 q1 q2 q3)), .val (.int (v0_25 p0 q1 q2 q3)), .val (.int (v0_40 p0 q1 q2 q3)), .val (.int (v0_56 p0 q1 q2 q3)), .val (.int (v0_73 p0 q1 q2 q3)), .val (.ref r0_83), .val (.ref r0_96), .val (.int (0 : Int32)), .val (.int (0 : Int32)), .val (.int (v0_156 p0 q1 q2 q3)), .val (.int (v0_156 p0 q1 q2 q3)), .val (.int (v0_189 p0 q1 q2 q3)), .val (.int (v0_198 p0 q1 q2 q3))] [(.int z), (.int (v0_198 p0 q1 q2 q3))]) (if_pos hc19) k)
          · skip
            refine XS.ifYes X16.here hx rfl (pc0 := 219) (pc' := 226) rfl (hb hby at_219) rfl ((if0 _ _).trans (flt (hc19)).2.2.2) (by decide) (by decide) ?_
            show Steps p.tables e below (T16.setTop (mkF m 226 (la0_24 p0 q1 q2 q3 r0_83 r0_96) [(.int (v0_198 p0 q1 q2 q3))])) t
            refine SGo.go (T' := T16) (g' := (mkF m 227 (la0_24 p0 q1 q2 q3 r0_83 r0_96) [(.int (0 : Int32)), (.int (v0_198 p0 q1 q2 q3))])) (fun t k => ?_) ?_
            · show Steps p.tables e below (T16.setTop (mkF m 226 (la0_24 p0 q1 q2 q3 r0_83 r0_96) [(.int (v0_198 p0 q1 q2 q3))])) t
              refine XS.iconst X16.here hx rfl (hb hby at_226) ?_
              show Steps p.tables e below (T16.setTop (mkF m 227 (la0_24 p0 q1 q2 q3 r0_83 r0_96) [(.int (0 : Int32)), (.int (v0_198 p0 q1 q2 q3))])) t
              exact k
            exact (own_k (f := fun (z : Int32) => mkF m 227 #[.val (.int p0), .val (.long q1), .second, .val (.long q2), .second, .val (.long q3), .second, .val (.int (1 : Int32)), .val (.int (v0_10 p0 q1 q2 q3)), .val (.int (v0_17 p0 q1 q2 q3)), .val (.int (v0_25 p0 q1 q2 q3)), .val (.int (v0_40 p0 q1 q2 q3)), .val (.int (v0_56 p0 q1 q2 q3)), .val (.int (v0_73 p0 q1 q2 q3)), .val (.ref r0_83), .val (.ref r0_96), .val (.int (0 : Int32)), .val (.int (0 : Int32)), .val (.int (v0_156 p0 q1 q2 q3)), .val (.int (v0_156 p0 q1 q2 q3)), .val (.int (v0_189 p0 q1 q2 q3)), .val (.int (v0_198 p0 q1 q2 q3))] [(.int z), (.int (v0_198 p0 q1 q2 q3))]) (if_neg hc19) k)
        by_cases hc20 : (v0_198 p0 q1 q2 q3) = (v0_227_s0 p0 q1 q2 q3)
        · skip
          refine XS.icmpNo X16.here hx rfl (hb hby at_227) rfl (teq (hc20)).2 ?_
          show Steps p.tables e below (T16.setTop (mkF m 230 (la0_24 p0 q1 q2 q3 r0_83 r0_96) [])) t
          refine SGo.go (T' := T16) (g' := (mkF m 235 (la0_24 p0 q1 q2 q3 r0_83 r0_96) [(.int (1 : Int32))])) (fun t k => ?_) ?_
          · show Steps p.tables e below (T16.setTop (mkF m 230 (la0_24 p0 q1 q2 q3 r0_83 r0_96) [])) t
            refine XS.iconst X16.here hx rfl (hb hby at_230) ?_
            show Steps p.tables e below (T16.setTop (mkF m 231 (la0_24 p0 q1 q2 q3 r0_83 r0_96) [(.int (1 : Int32))])) t
            refine XS.goto X16.here hx rfl (pc0 := 231) (pc' := 235) rfl (hb hby at_231) (by decide) (by decide) ?_
            show Steps p.tables e below (T16.setTop (mkF m 235 (la0_24 p0 q1 q2 q3 r0_83 r0_96) [(.int (1 : Int32))])) t
            exact k
          exact (own_k (f := fun (z : Int32) => mkF m 235 #[.val (.int p0), .val (.long q1), .second, .val (.long q2), .second, .val (.long q3), .second, .val (.int (1 : Int32)), .val (.int (v0_10 p0 q1 q2 q3)), .val (.int (v0_17 p0 q1 q2 q3)), .val (.int (v0_25 p0 q1 q2 q3)), .val (.int (v0_40 p0 q1 q2 q3)), .val (.int (v0_56 p0 q1 q2 q3)), .val (.int (v0_73 p0 q1 q2 q3)), .val (.ref r0_83), .val (.ref r0_96), .val (.int (0 : Int32)), .val (.int (0 : Int32)), .val (.int (v0_156 p0 q1 q2 q3)), .val (.int (v0_156 p0 q1 q2 q3)), .val (.int (v0_189 p0 q1 q2 q3)), .val (.int (v0_198 p0 q1 q2 q3))] [(.int z)]) ((if_pos hc18).trans (if_pos hc20)) k)
        · skip
          refine XS.icmpYes X16.here hx rfl (pc0 := 227) (pc' := 234) rfl (hb hby at_227) rfl (feq (hc20)).2 (by decide) (by decide) ?_
          show Steps p.tables e below (T16.setTop (mkF m 234 (la0_24 p0 q1 q2 q3 r0_83 r0_96) [])) t
          refine SGo.go (T' := T16) (g' := (mkF m 235 (la0_24 p0 q1 q2 q3 r0_83 r0_96) [(.int (0 : Int32))])) (fun t k => ?_) ?_
          · show Steps p.tables e below (T16.setTop (mkF m 234 (la0_24 p0 q1 q2 q3 r0_83 r0_96) [])) t
            refine XS.iconst X16.here hx rfl (hb hby at_234) ?_
            show Steps p.tables e below (T16.setTop (mkF m 235 (la0_24 p0 q1 q2 q3 r0_83 r0_96) [(.int (0 : Int32))])) t
            exact k
          exact (own_k (f := fun (z : Int32) => mkF m 235 #[.val (.int p0), .val (.long q1), .second, .val (.long q2), .second, .val (.long q3), .second, .val (.int (1 : Int32)), .val (.int (v0_10 p0 q1 q2 q3)), .val (.int (v0_17 p0 q1 q2 q3)), .val (.int (v0_25 p0 q1 q2 q3)), .val (.int (v0_40 p0 q1 q2 q3)), .val (.int (v0_56 p0 q1 q2 q3)), .val (.int (v0_73 p0 q1 q2 q3)), .val (.ref r0_83), .val (.ref r0_96), .val (.int (0 : Int32)), .val (.int (0 : Int32)), .val (.int (v0_156 p0 q1 q2 q3)), .val (.int (v0_156 p0 q1 q2 q3)), .val (.int (v0_189 p0 q1 q2 q3)), .val (.int (v0_198 p0 q1 q2 q3))] [(.int z)]) ((if_pos hc18).trans (if_neg hc20)) k)
      · skip
        refine XS.icmpYes X16.here hx rfl (pc0 := 212) (pc' := 234) rfl (hb hby at_212) rfl (feq (hc18)).2 (by decide) (by decide) ?_
        show Steps p.tables e below (T16.setTop (mkF m 234 (la0_24 p0 q1 q2 q3 r0_83 r0_96) [])) t
        refine SGo.go (T' := T16) (g' := (mkF m 235 (la0_24 p0 q1 q2 q3 r0_83 r0_96) [(.int (0 : Int32))])) (fun t k => ?_) ?_
        · show Steps p.tables e below (T16.setTop (mkF m 234 (la0_24 p0 q1 q2 q3 r0_83 r0_96) [])) t
          refine XS.iconst X16.here hx rfl (hb hby at_234) ?_
          show Steps p.tables e below (T16.setTop (mkF m 235 (la0_24 p0 q1 q2 q3 r0_83 r0_96) [(.int (0 : Int32))])) t
          exact k
        exact (own_k (f := fun (z : Int32) => mkF m 235 #[.val (.int p0), .val (.long q1), .second, .val (.long q2), .second, .val (.long q3), .second, .val (.int (1 : Int32)), .val (.int (v0_10 p0 q1 q2 q3)), .val (.int (v0_17 p0 q1 q2 q3)), .val (.int (v0_25 p0 q1 q2 q3)), .val (.int (v0_40 p0 q1 q2 q3)), .val (.int (v0_56 p0 q1 q2 q3)), .val (.int (v0_73 p0 q1 q2 q3)), .val (.ref r0_83), .val (.ref r0_96), .val (.int (0 : Int32)), .val (.int (0 : Int32)), .val (.int (v0_156 p0 q1 q2 q3)), .val (.int (v0_156 p0 q1 q2 q3)), .val (.int (v0_189 p0 q1 q2 q3)), .val (.int (v0_198 p0 q1 q2 q3))] [(.int z)]) (if_neg hc18) k)
    exact OEnd.nar X16 hx (t := .boolean) Bd.returns (by simp) hlk (hb hby at_235) ⟨(congrArg (fun z => some (Value.int (nar .boolean z))) (own_plain_1 p0 q1 q2 q3)), N16⟩ (by decide) (by decide)
  · skip
    refine OEnd.go (T' := s₁) (g' := (mkF m 75 (la0_25 p0 q1 q2 q3) [])) (fun t k => (own_k (f := fun (z : Int32) => mkF m 75 #[.val (.int p0), .val (.long q1), .second, .val (.long q2), .second, .val (.long q3), .second, .val (.int z), .val (.int (v0_10 p0 q1 q2 q3)), .val (.int (v0_17 p0 q1 q2 q3)), .val (.int (v0_25 p0 q1 q2 q3)), .val (.int (v0_40 p0 q1 q2 q3)), .val (.int (v0_56 p0 q1 q2 q3)), .val (.int (v0_73 p0 q1 q2 q3)), .unset, .unset, .unset, .unset, .unset, .unset, .unset, .unset] []) hs4.symm k)) ?_
    refine OEnd.go (T' := s₁) (g' := (mkF m 83 (la0_25 p0 q1 q2 q3) [(.int (v0_25 p0 q1 q2 q3)), (.int (v0_17 p0 q1 q2 q3)), (.int (v0_10 p0 q1 q2 q3)), (.int (2 : Int32))])) (fun t k => ?_) ?_
    · show Steps p.tables e below (s₁.setTop (mkF m 75 (la0_25 p0 q1 q2 q3) [])) t
      refine XS.iload X0.here hx rfl (hb hby at_75) rfl ?_
      show Steps p.tables e below (s₁.setTop (mkF m 77 (la0_25 p0 q1 q2 q3) [(.int (2 : Int32))])) t
      refine XS.iload X0.here hx rfl (hb hby at_77) rfl ?_
      show Steps p.tables e below (s₁.setTop (mkF m 79 (la0_25 p0 q1 q2 q3) [(.int (v0_10 p0 q1 q2 q3)), (.int (2 : Int32))])) t
      refine XS.iload X0.here hx rfl (hb hby at_79) rfl ?_
      show Steps p.tables e below (s₁.setTop (mkF m 81 (la0_25 p0 q1 q2 q3) [(.int (v0_17 p0 q1 q2 q3)), (.int (v0_10 p0 q1 q2 q3)), (.int (2 : Int32))])) t
      refine XS.iload X0.here hx rfl (hb hby at_81) rfl ?_
      show Steps p.tables e below (s₁.setTop (mkF m 83 (la0_25 p0 q1 q2 q3) [(.int (v0_25 p0 q1 q2 q3)), (.int (v0_17 p0 q1 q2 q3)), (.int (v0_10 p0 q1 q2 q3)), (.int (2 : Int32))])) t
      exact k
    obtain ⟨_, _, ⟨T21, L21, k21, n21⟩, -, X21, ⟨Lc21, hQ21, l21, y21, z21⟩, st21⟩ := Jvm.LawKit.callS X0 hx (y := (⟨"com/example/assentor/assentor/check/OdometerBeforePinLaw", "mk", "(IIII)[I"⟩ : MethodName)) hown (mvT hZ (hw _ (List.mem_of_getElem? (i := 0) rfl))) (mvT hZ (hw _ (List.mem_of_getElem? (i := 1) rfl))) (mvT hZ (hw _ (List.mem_of_getElem? (i := 2) rfl))) (mvT hZ (hw _ (List.mem_of_getElem? (i := 3) rfl))) (by decide) (backOf (W := 0) (rm1_2 l Z aZ hw [] (v0_10 p0 q1 q2 q3) (v0_17 p0 q1 q2 q3) (v0_25 p0 q1 q2 q3) h0 n0 Z0 ) hZ (hw _ (List.mem_of_getElem? (i := 3) rfl)) (hw _ (List.mem_of_getElem? (i := 2) rfl)) (by decide) (by decide)) (g := (mkF m 83 (la0_25 p0 q1 q2 q3) [(.int (v0_25 p0 q1 q2 q3)), (.int (v0_17 p0 q1 q2 q3)), (.int (v0_10 p0 q1 q2 q3)), (.int (2 : Int32))])) rfl (by rw [hml]; rfl) (argsL := [(.int (2 : Int32)), (.int (v0_10 p0 q1 q2 q3)), (.int (v0_17 p0 q1 q2 q3)), (.int (v0_25 p0 q1 q2 q3))]) (rest := []) (lenOf pd__IIII__I rfl) rfl (by show 2 * 0 + _ ≤ _; exact Nat.le_of_eq rfl) (hb hby at_83) (fun _ _ => ⟨rfl, e0, (by decide : 0 + 1 ≤ _), (by decide : 0 + 2 ≤ _)⟩)
    dsimp only [Pt.U, Pt.locs, Pt.cells, Pt.slots] at X21 l21 y21 z21 st21 hQ21
    subst l21 y21 z21
    obtain ⟨r0_83, rfl, gle_r0_83, sz_r0_83', N21q, u21_0, u21_1⟩ := hQ21
    have N21 := Fr.app N0 N21q
    have Z21 : n0 ≤ T21.heap.size := Nat.le_trans Z0 u21_0.1
    refine OEnd.go (g' := (mkF m 86 (la0_25 p0 q1 q2 q3) [(.ref r0_83)])) st21 ?_
    refine OEnd.go (T' := T21) (g' := (mkF m 96 (la0_26 p0 q1 q2 q3 r0_83) [(.int (v0_73 p0 q1 q2 q3)), (.int (v0_56 p0 q1 q2 q3)), (.int (v0_40 p0 q1 q2 q3)), (.int (2 : Int32))])) (fun t k => ?_) ?_
    · show Steps p.tables e below (T21.setTop (mkF m 86 (la0_25 p0 q1 q2 q3) [(.ref r0_83)])) t
      refine XS.astore X21.here hx rfl (hb hby at_86) rfl rfl (l' := (la0_26 p0 q1 q2 q3 r0_83)) rfl ?_
      show Steps p.tables e below (T21.setTop (mkF m 88 (la0_26 p0 q1 q2 q3 r0_83) [])) t
      refine XS.iload X21.here hx rfl (hb hby at_88) rfl ?_
      show Steps p.tables e below (T21.setTop (mkF m 90 (la0_26 p0 q1 q2 q3 r0_83) [(.int (2 : Int32))])) t
      refine XS.iload X21.here hx rfl (hb hby at_90) rfl ?_
      show Steps p.tables e below (T21.setTop (mkF m 92 (la0_26 p0 q1 q2 q3 r0_83) [(.int (v0_40 p0 q1 q2 q3)), (.int (2 : Int32))])) t
      refine XS.iload X21.here hx rfl (hb hby at_92) rfl ?_
      show Steps p.tables e below (T21.setTop (mkF m 94 (la0_26 p0 q1 q2 q3 r0_83) [(.int (v0_56 p0 q1 q2 q3)), (.int (v0_40 p0 q1 q2 q3)), (.int (2 : Int32))])) t
      refine XS.iload X21.here hx rfl (hb hby at_94) rfl ?_
      show Steps p.tables e below (T21.setTop (mkF m 96 (la0_26 p0 q1 q2 q3 r0_83) [(.int (v0_73 p0 q1 q2 q3)), (.int (v0_56 p0 q1 q2 q3)), (.int (v0_40 p0 q1 q2 q3)), (.int (2 : Int32))])) t
      exact k
    obtain ⟨_, _, ⟨T22, L22, k22, n22⟩, -, X22, ⟨Lc22, hQ22, l22, y22, z22⟩, st22⟩ := Jvm.LawKit.callS X21 hx (y := (⟨"com/example/assentor/assentor/check/OdometerBeforePinLaw", "mk", "(IIII)[I"⟩ : MethodName)) hown (mvT hZ (hw _ (List.mem_of_getElem? (i := 0) rfl))) (mvT hZ (hw _ (List.mem_of_getElem? (i := 1) rfl))) (mvT hZ (hw _ (List.mem_of_getElem? (i := 2) rfl))) (mvT hZ (hw _ (List.mem_of_getElem? (i := 3) rfl))) (by decide) (backOf (W := 0) (rm1_2 l Z aZ hw [] (v0_40 p0 q1 q2 q3) (v0_56 p0 q1 q2 q3) (v0_73 p0 q1 q2 q3) T21.heap n0 Z21 ) hZ (hw _ (List.mem_of_getElem? (i := 3) rfl)) (hw _ (List.mem_of_getElem? (i := 2) rfl)) (by decide) (by decide)) (g := (mkF m 96 (la0_26 p0 q1 q2 q3 r0_83) [(.int (v0_73 p0 q1 q2 q3)), (.int (v0_56 p0 q1 q2 q3)), (.int (v0_40 p0 q1 q2 q3)), (.int (2 : Int32))])) rfl (by rw [hml]; rfl) (argsL := [(.int (2 : Int32)), (.int (v0_40 p0 q1 q2 q3)), (.int (v0_56 p0 q1 q2 q3)), (.int (v0_73 p0 q1 q2 q3))]) (rest := []) (lenOf pd__IIII__I rfl) rfl (by show 2 * 0 + _ ≤ _; exact Nat.le_of_eq rfl) (hb hby at_96) (fun _ _ => ⟨rfl, rfl, (by decide : 1 + 1 ≤ _), (by decide : 2 + 2 ≤ _)⟩)
    dsimp only [Pt.U, Pt.locs, Pt.cells, Pt.slots] at X22 l22 y22 z22 st22 hQ22
    subst l22 y22 z22
    obtain ⟨r0_96, rfl, gle_r0_96, sz_r0_96', N22q, u22_0, u22_1⟩ := hQ22
    have ne_r0_83_r0_96 : r0_83 ≠ r0_96 := Nat.ne_of_lt (Nat.lt_of_lt_of_le u21_1.lt sz_r0_96')
    have N22 := Fr.app N21 N22q
    have Z22 : n0 ≤ T22.heap.size := Nat.le_trans Z21 u22_0.1
    have fc23 : OArr Z T22.heap r0_83 .int (2 : Int32) [(.int (v0_10 p0 q1 q2 q3)), (.int (v0_17 p0 q1 q2 q3))] (.int (0 : Int32)) := (u21_1.keep u22_0 nin0)
    refine OEnd.go (g' := (mkF m 99 (la0_26 p0 q1 q2 q3 r0_83) [(.ref r0_96)])) st22 ?_
    refine OEnd.go (T' := T22) (g' := (mkF m 130 (la0_28 p0 q1 q2 q3 r0_83 r0_96) [(.int (v0_56 p0 q1 q2 q3)), (.int (v0_17 p0 q1 q2 q3))])) (fun t k => ?_) ?_
    · show Steps p.tables e below (T22.setTop (mkF m 99 (la0_26 p0 q1 q2 q3 r0_83) [(.ref r0_96)])) t
      refine XS.astore X22.here hx rfl (hb hby at_99) rfl rfl (l' := (la0_27 p0 q1 q2 q3 r0_83 r0_96)) rfl ?_
      show Steps p.tables e below (T22.setTop (mkF m 101 (la0_27 p0 q1 q2 q3 r0_83 r0_96) [])) t
      refine XS.iload X22.here hx rfl (hb hby at_101) rfl ?_
      show Steps p.tables e below (T22.setTop (mkF m 103 (la0_27 p0 q1 q2 q3 r0_83 r0_96) [(.int (2 : Int32))])) t
      refine XS.iconst X22.here hx rfl (hb hby at_103) ?_
      show Steps p.tables e below (T22.setTop (mkF m 104 (la0_27 p0 q1 q2 q3 r0_83 r0_96) [(.int (3 : Int32)), (.int (2 : Int32))])) t
      refine XS.icmpYes X22.here hx rfl (pc0 := 104) (pc' := 117) rfl (hb hby at_104) rfl (tlt ((by decide))).1 (by decide) (by decide) ?_
      show Steps p.tables e below (T22.setTop (mkF m 117 (la0_27 p0 q1 q2 q3 r0_83 r0_96) [])) t
      refine XS.iconst X22.here hx rfl (hb hby at_117) ?_
      show Steps p.tables e below (T22.setTop (mkF m 118 (la0_27 p0 q1 q2 q3 r0_83 r0_96) [(.int (0 : Int32))])) t
      refine XS.istore X22.here hx rfl (hb hby at_118) rfl (l' := (la0_28 p0 q1 q2 q3 r0_83 r0_96)) rfl ?_
      show Steps p.tables e below (T22.setTop (mkF m 120 (la0_28 p0 q1 q2 q3 r0_83 r0_96) [])) t
      refine XS.iload X22.here hx rfl (hb hby at_120) rfl ?_
      show Steps p.tables e below (T22.setTop (mkF m 122 (la0_28 p0 q1 q2 q3 r0_83 r0_96) [(.int (2 : Int32))])) t
      refine XS.iconst X22.here hx rfl (hb hby at_122) ?_
      show Steps p.tables e below (T22.setTop (mkF m 123 (la0_28 p0 q1 q2 q3 r0_83 r0_96) [(.int (2 : Int32)), (.int (2 : Int32))])) t
      refine XS.icmpNo X22.here hx rfl (hb hby at_123) rfl (flt ((by decide))).1 ?_
      show Steps p.tables e below (T22.setTop (mkF m 126 (la0_28 p0 q1 q2 q3 r0_83 r0_96) [])) t
      refine XS.iload X22.here hx rfl (hb hby at_126) rfl ?_
      show Steps p.tables e below (T22.setTop (mkF m 128 (la0_28 p0 q1 q2 q3 r0_83 r0_96) [(.int (v0_17 p0 q1 q2 q3))])) t
      refine XS.iload X22.here hx rfl (hb hby at_128) rfl ?_
      show Steps p.tables e below (T22.setTop (mkF m 130 (la0_28 p0 q1 q2 q3 r0_83 r0_96) [(.int (v0_56 p0 q1 q2 q3)), (.int (v0_17 p0 q1 q2 q3))])) t
      exact k
    obtain ⟨_, _, ⟨T24, L24, k24, n24⟩, -, X24, ⟨Lc24, hQ24, l24, y24, z24⟩, st24⟩ := Jvm.LawKit.callS X22 hx (y := (⟨"com/example/assentor/assentor/check/OdometerBeforePinLaw", "sign", "(II)I"⟩ : MethodName)) hown (mvT hZ (hw _ (List.mem_of_getElem? (i := 9) rfl))) (mvT hZ (hw _ (List.mem_of_getElem? (i := 10) rfl))) (mvT hZ (hw _ (List.mem_of_getElem? (i := 2) rfl))) (mvT hZ (hw _ (List.mem_of_getElem? (i := 11) rfl))) (by decide) (backOf (W := 0) (rm3 l Z aZ hw [] (v0_17 p0 q1 q2 q3) (v0_56 p0 q1 q2 q3) T22.heap n0 Z22 ) hZ (hw _ (List.mem_of_getElem? (i := 11) rfl)) (hw _ (List.mem_of_getElem? (i := 2) rfl)) (by decide) (by decide)) (g := (mkF m 130 (la0_28 p0 q1 q2 q3 r0_83 r0_96) [(.int (v0_56 p0 q1 q2 q3)), (.int (v0_17 p0 q1 q2 q3))])) rfl (by rw [hml]; rfl) (argsL := [(.int (v0_17 p0 q1 q2 q3)), (.int (v0_56 p0 q1 q2 q3))]) (rest := []) (lenOf pd__II_I rfl) rfl (by show 2 * 0 + _ ≤ _; exact Nat.le_of_eq rfl) (hb hby at_130) (fun _ _ => ⟨rfl, rfl, (by decide : 2 + 0 ≤ _), (by decide : 4 + 0 ≤ _)⟩)
    dsimp only [Pt.U, Pt.locs, Pt.cells, Pt.slots] at X24 l24 y24 z24 st24 hQ24
    subst l24 y24 z24
    obtain ⟨rfl, N24q, e24⟩ := hQ24
    have N24 := Fr.app N22 N24q
    refine OEnd.go (g' := (mkF m 133 (la0_28 p0 q1 q2 q3 r0_83 r0_96) [(.int (f3 (v0_17 p0 q1 q2 q3) (v0_56 p0 q1 q2 q3)))])) st24 ?_
    refine OEnd.go (T' := T24) (g' := (mkF m 149 (la0_29 p0 q1 q2 q3 r0_83 r0_96) [(.int (v0_40 p0 q1 q2 q3)), (.int (v0_10 p0 q1 q2 q3))])) (fun t k => ?_) ?_
    · show Steps p.tables e below (T24.setTop (mkF m 133 (la0_28 p0 q1 q2 q3 r0_83 r0_96) [(.int (f3 (v0_17 p0 q1 q2 q3) (v0_56 p0 q1 q2 q3)))])) t
      refine XS.goto X24.here hx rfl (pc0 := 133) (pc' := 137) rfl (hb hby at_133) (by decide) (by decide) ?_
      show Steps p.tables e below (T24.setTop (mkF m 137 (la0_28 p0 q1 q2 q3 r0_83 r0_96) [(.int (f3 (v0_17 p0 q1 q2 q3) (v0_56 p0 q1 q2 q3)))])) t
      refine XS.istore X24.here hx rfl (hb hby at_137) rfl (l' := (la0_29 p0 q1 q2 q3 r0_83 r0_96)) rfl ?_
      show Steps p.tables e below (T24.setTop (mkF m 139 (la0_29 p0 q1 q2 q3 r0_83 r0_96) [])) t
      refine XS.iload X24.here hx rfl (hb hby at_139) rfl ?_
      show Steps p.tables e below (T24.setTop (mkF m 141 (la0_29 p0 q1 q2 q3 r0_83 r0_96) [(.int (2 : Int32))])) t
      refine XS.iconst X24.here hx rfl (hb hby at_141) ?_
      show Steps p.tables e below (T24.setTop (mkF m 142 (la0_29 p0 q1 q2 q3 r0_83 r0_96) [(.int (1 : Int32)), (.int (2 : Int32))])) t
      refine XS.icmpNo X24.here hx rfl (hb hby at_142) rfl (flt ((by decide))).1 ?_
      show Steps p.tables e below (T24.setTop (mkF m 145 (la0_29 p0 q1 q2 q3 r0_83 r0_96) [])) t
      refine XS.iload X24.here hx rfl (hb hby at_145) rfl ?_
      show Steps p.tables e below (T24.setTop (mkF m 147 (la0_29 p0 q1 q2 q3 r0_83 r0_96) [(.int (v0_10 p0 q1 q2 q3))])) t
      refine XS.iload X24.here hx rfl (hb hby at_147) rfl ?_
      show Steps p.tables e below (T24.setTop (mkF m 149 (la0_29 p0 q1 q2 q3 r0_83 r0_96) [(.int (v0_40 p0 q1 q2 q3)), (.int (v0_10 p0 q1 q2 q3))])) t
      exact k
    obtain ⟨_, _, ⟨T25, L25, k25, n25⟩, -, X25, ⟨Lc25, hQ25, l25, y25, z25⟩, st25⟩ := Jvm.LawKit.callS X24 hx (y := (⟨"com/example/assentor/assentor/check/OdometerBeforePinLaw", "sign", "(II)I"⟩ : MethodName)) hown (mvT hZ (hw _ (List.mem_of_getElem? (i := 9) rfl))) (mvT hZ (hw _ (List.mem_of_getElem? (i := 10) rfl))) (mvT hZ (hw _ (List.mem_of_getElem? (i := 2) rfl))) (mvT hZ (hw _ (List.mem_of_getElem? (i := 11) rfl))) (by decide) (backOf (W := 0) (rm3 l Z aZ hw [] (v0_10 p0 q1 q2 q3) (v0_40 p0 q1 q2 q3) T22.heap n0 Z22 ) hZ (hw _ (List.mem_of_getElem? (i := 11) rfl)) (hw _ (List.mem_of_getElem? (i := 2) rfl)) (by decide) (by decide)) (g := (mkF m 149 (la0_29 p0 q1 q2 q3 r0_83 r0_96) [(.int (v0_40 p0 q1 q2 q3)), (.int (v0_10 p0 q1 q2 q3))])) rfl (by rw [hml]; rfl) (argsL := [(.int (v0_10 p0 q1 q2 q3)), (.int (v0_40 p0 q1 q2 q3))]) (rest := []) (lenOf pd__II_I rfl) rfl (by show 2 * 0 + _ ≤ _; exact Nat.le_of_eq rfl) (hb hby at_149) (fun _ _ => ⟨rfl, e24, (by decide : 2 + 0 ≤ _), (by decide : 4 + 0 ≤ _)⟩)
    dsimp only [Pt.U, Pt.locs, Pt.cells, Pt.slots] at X25 l25 y25 z25 st25 hQ25
    subst l25 y25 z25
    obtain ⟨rfl, N25q, e25⟩ := hQ25
    have N25 := Fr.app N24 N25q
    refine OEnd.go (g' := (mkF m 152 (la0_29 p0 q1 q2 q3 r0_83 r0_96) [(.int (f3 (v0_10 p0 q1 q2 q3) (v0_40 p0 q1 q2 q3)))])) st25 ?_
    refine OEnd.go (T' := T25) (g' := (mkF m 170 (la0_30 p0 q1 q2 q3 r0_83 r0_96) [(.int (v0_137 p0 q1 q2 q3))])) (fun t k => ?_) ?_
    · show Steps p.tables e below (T25.setTop (mkF m 152 (la0_29 p0 q1 q2 q3 r0_83 r0_96) [(.int (f3 (v0_10 p0 q1 q2 q3) (v0_40 p0 q1 q2 q3)))])) t
      refine XS.goto X25.here hx rfl (pc0 := 152) (pc' := 156) rfl (hb hby at_152) (by decide) (by decide) ?_
      show Steps p.tables e below (T25.setTop (mkF m 156 (la0_29 p0 q1 q2 q3 r0_83 r0_96) [(.int (f3 (v0_10 p0 q1 q2 q3) (v0_40 p0 q1 q2 q3)))])) t
      refine XS.istore X25.here hx rfl (hb hby at_156) rfl (l' := (la0_30 p0 q1 q2 q3 r0_83 r0_96)) rfl ?_
      show Steps p.tables e below (T25.setTop (mkF m 158 (la0_30 p0 q1 q2 q3 r0_83 r0_96) [])) t
      refine XS.iload X25.here hx rfl (hb hby at_158) rfl ?_
      show Steps p.tables e below (T25.setTop (mkF m 160 (la0_30 p0 q1 q2 q3 r0_83 r0_96) [(.int (0 : Int32))])) t
      refine XS.ifYes X25.here hx rfl (pc0 := 160) (pc' := 168) rfl (hb hby at_160) rfl ((if0 _ _).trans (teq ((by decide))).1) (by decide) (by decide) ?_
      show Steps p.tables e below (T25.setTop (mkF m 168 (la0_30 p0 q1 q2 q3 r0_83 r0_96) [])) t
      refine XS.iload X25.here hx rfl (hb hby at_168) rfl ?_
      show Steps p.tables e below (T25.setTop (mkF m 170 (la0_30 p0 q1 q2 q3 r0_83 r0_96) [(.int (v0_137 p0 q1 q2 q3))])) t
      exact k
    refine OEnd.go (T' := T25) (g' := (mkF m 180 (la0_30 p0 q1 q2 q3 r0_83 r0_96) [(.int (if (v0_137 p0 q1 q2 q3) = (0 : Int32) then (v0_156 p0 q1 q2 q3) else (v0_137 p0 q1 q2 q3)))])) (fun t k => ?_) ?_
    · show Steps p.tables e below (T25.setTop (mkF m 170 (la0_30 p0 q1 q2 q3 r0_83 r0_96) [(.int (v0_137 p0 q1 q2 q3))])) t
      by_cases hc26 : (v0_137 p0 q1 q2 q3) = (0 : Int32)
      · skip
        refine XS.ifYes X25.here hx rfl (pc0 := 170) (pc' := 178) rfl (hb hby at_170) rfl ((if0 _ _).trans (teq (hc26)).1) (by decide) (by decide) ?_
        show Steps p.tables e below (T25.setTop (mkF m 178 (la0_30 p0 q1 q2 q3 r0_83 r0_96) [])) t
        refine SGo.go (T' := T25) (g' := (mkF m 180 (la0_30 p0 q1 q2 q3 r0_83 r0_96) [(.int (v0_156 p0 q1 q2 q3))])) (fun t k => ?_) ?_
        · show Steps p.tables e below (T25.setTop (mkF m 178 (la0_30 p0 q1 q2 q3 r0_83 r0_96) [])) t
          refine XS.iload X25.here hx rfl (hb hby at_178) rfl ?_
          show Steps p.tables e below (T25.setTop (mkF m 180 (la0_30 p0 q1 q2 q3 r0_83 r0_96) [(.int (v0_156 p0 q1 q2 q3))])) t
          exact k
        exact (own_k (f := fun (z : Int32) => mkF m 180 #[.val (.int p0), .val (.long q1), .second, .val (.long q2), .second, .val (.long q3), .second, .val (.int (2 : Int32)), .val (.int (v0_10 p0 q1 q2 q3)), .val (.int (v0_17 p0 q1 q2 q3)), .val (.int (v0_25 p0 q1 q2 q3)), .val (.int (v0_40 p0 q1 q2 q3)), .val (.int (v0_56 p0 q1 q2 q3)), .val (.int (v0_73 p0 q1 q2 q3)), .val (.ref r0_83), .val (.ref r0_96), .val (.int (0 : Int32)), .val (.int (v0_137 p0 q1 q2 q3)), .val (.int (v0_156 p0 q1 q2 q3)), .unset, .unset, .unset] [(.int z)]) (if_pos hc26) k)
      · skip
        refine XS.ifNo X25.here hx rfl (hb hby at_170) rfl ((if0 _ _).trans (feq (hc26)).1) ?_
        show Steps p.tables e below (T25.setTop (mkF m 173 (la0_30 p0 q1 q2 q3 r0_83 r0_96) [])) t
        refine SGo.go (T' := T25) (g' := (mkF m 180 (la0_30 p0 q1 q2 q3 r0_83 r0_96) [(.int (v0_137 p0 q1 q2 q3))])) (fun t k => ?_) ?_
        · show Steps p.tables e below (T25.setTop (mkF m 173 (la0_30 p0 q1 q2 q3 r0_83 r0_96) [])) t
          refine XS.iload X25.here hx rfl (hb hby at_173) rfl ?_
          show Steps p.tables e below (T25.setTop (mkF m 175 (la0_30 p0 q1 q2 q3 r0_83 r0_96) [(.int (v0_137 p0 q1 q2 q3))])) t
          refine XS.goto X25.here hx rfl (pc0 := 175) (pc' := 180) rfl (hb hby at_175) (by decide) (by decide) ?_
          show Steps p.tables e below (T25.setTop (mkF m 180 (la0_30 p0 q1 q2 q3 r0_83 r0_96) [(.int (v0_137 p0 q1 q2 q3))])) t
          exact k
        exact (own_k (f := fun (z : Int32) => mkF m 180 #[.val (.int p0), .val (.long q1), .second, .val (.long q2), .second, .val (.long q3), .second, .val (.int (2 : Int32)), .val (.int (v0_10 p0 q1 q2 q3)), .val (.int (v0_17 p0 q1 q2 q3)), .val (.int (v0_25 p0 q1 q2 q3)), .val (.int (v0_40 p0 q1 q2 q3)), .val (.int (v0_56 p0 q1 q2 q3)), .val (.int (v0_73 p0 q1 q2 q3)), .val (.ref r0_83), .val (.ref r0_96), .val (.int (0 : Int32)), .val (.int (v0_137 p0 q1 q2 q3)), .val (.int (v0_156 p0 q1 q2 q3)), .unset, .unset, .unset] [(.int z)]) (if_neg hc26) k)
    refine OEnd.go (T' := T25) (g' := (mkF m 186 (la0_31 p0 q1 q2 q3 r0_83 r0_96) [(.ref r0_96), (.ref r0_83)])) (fun t k => ?_) ?_
    · show Steps p.tables e below (T25.setTop (mkF m 180 (la0_30 p0 q1 q2 q3 r0_83 r0_96) [(.int (if (v0_137 p0 q1 q2 q3) = (0 : Int32) then (v0_156 p0 q1 q2 q3) else (v0_137 p0 q1 q2 q3)))])) t
      refine XS.istore X25.here hx rfl (hb hby at_180) rfl (l' := (la0_31 p0 q1 q2 q3 r0_83 r0_96)) rfl ?_
      show Steps p.tables e below (T25.setTop (mkF m 182 (la0_31 p0 q1 q2 q3 r0_83 r0_96) [])) t
      refine XS.aload X25.here hx rfl (hb hby at_182) rfl rfl ?_
      show Steps p.tables e below (T25.setTop (mkF m 184 (la0_31 p0 q1 q2 q3 r0_83 r0_96) [(.ref r0_83)])) t
      refine XS.aload X25.here hx rfl (hb hby at_184) rfl rfl ?_
      show Steps p.tables e below (T25.setTop (mkF m 186 (la0_31 p0 q1 q2 q3 r0_83 r0_96) [(.ref r0_96), (.ref r0_83)])) t
      exact k
    obtain ⟨_, _, ⟨T27, L27, k27, n27⟩, -, X27, ⟨Lc27, hQ27, l27, y27, z27⟩, st27⟩ := Jvm.LawKit.callS X25 hx (y := (⟨"com/example/assentor/assentor/check/Odometer", "before", "([I[I)Z"⟩ : MethodName)) hown (mvT hZ (hw _ (List.mem_of_getElem? (i := 5) rfl))) (mvT hZ (hw _ (List.mem_of_getElem? (i := 6) rfl))) (mvT hZ (hw _ (List.mem_of_getElem? (i := 7) rfl))) (mvT hZ (hw _ (List.mem_of_getElem? (i := 8) rfl))) (by decide) (backOf (W := 0) (rm2_2 l Z aZ hw [] r0_83 r0_96 (v0_10 p0 q1 q2 q3) (v0_17 p0 q1 q2 q3) (v0_40 p0 q1 q2 q3) (v0_56 p0 q1 q2 q3) T22.heap n0 Z22 fc23 u22_1) hZ (hw _ (List.mem_of_getElem? (i := 8) rfl)) (hw _ (List.mem_of_getElem? (i := 7) rfl)) (by decide) (by decide)) (g := (mkF m 186 (la0_31 p0 q1 q2 q3 r0_83 r0_96) [(.ref r0_96), (.ref r0_83)])) rfl (by rw [hml]; rfl) (argsL := [(.ref r0_83), (.ref r0_96)]) (rest := []) (lenOf pd___I_I_Z rfl) rfl (by show 2 * 0 + _ ≤ _; exact Nat.le_of_eq rfl) (hb hby at_186) (fun _ _ => ⟨rfl, e25, (by decide : 2 + 0 ≤ _), (by decide : 4 + 0 ≤ _)⟩)
    dsimp only [Pt.U, Pt.locs, Pt.cells, Pt.slots] at X27 l27 y27 z27 st27 hQ27
    subst l27 y27 z27
    obtain ⟨rfl, N27q, e27⟩ := hQ27
    have N27 := Fr.app N25 N27q
    refine OEnd.go (g' := (mkF m 189 (la0_31 p0 q1 q2 q3 r0_83 r0_96) [(.int (f2_2 (v0_10 p0 q1 q2 q3) (v0_17 p0 q1 q2 q3) (v0_40 p0 q1 q2 q3) (v0_56 p0 q1 q2 q3)))])) st27 ?_
    refine OEnd.go (T' := T27) (g' := (mkF m 195 (la0_32 p0 q1 q2 q3 r0_83 r0_96) [(.ref r0_83), (.ref r0_96)])) (fun t k => ?_) ?_
    · show Steps p.tables e below (T27.setTop (mkF m 189 (la0_31 p0 q1 q2 q3 r0_83 r0_96) [(.int (f2_2 (v0_10 p0 q1 q2 q3) (v0_17 p0 q1 q2 q3) (v0_40 p0 q1 q2 q3) (v0_56 p0 q1 q2 q3)))])) t
      refine XS.istore X27.here hx rfl (hb hby at_189) rfl (l' := (la0_32 p0 q1 q2 q3 r0_83 r0_96)) rfl ?_
      show Steps p.tables e below (T27.setTop (mkF m 191 (la0_32 p0 q1 q2 q3 r0_83 r0_96) [])) t
      refine XS.aload X27.here hx rfl (hb hby at_191) rfl rfl ?_
      show Steps p.tables e below (T27.setTop (mkF m 193 (la0_32 p0 q1 q2 q3 r0_83 r0_96) [(.ref r0_96)])) t
      refine XS.aload X27.here hx rfl (hb hby at_193) rfl rfl ?_
      show Steps p.tables e below (T27.setTop (mkF m 195 (la0_32 p0 q1 q2 q3 r0_83 r0_96) [(.ref r0_83), (.ref r0_96)])) t
      exact k
    obtain ⟨_, _, ⟨T28, L28, k28, n28⟩, -, X28, ⟨Lc28, hQ28, l28, y28, z28⟩, st28⟩ := Jvm.LawKit.callS X27 hx (y := (⟨"com/example/assentor/assentor/check/Odometer", "before", "([I[I)Z"⟩ : MethodName)) hown (mvT hZ (hw _ (List.mem_of_getElem? (i := 5) rfl))) (mvT hZ (hw _ (List.mem_of_getElem? (i := 6) rfl))) (mvT hZ (hw _ (List.mem_of_getElem? (i := 7) rfl))) (mvT hZ (hw _ (List.mem_of_getElem? (i := 8) rfl))) (by decide) (backOf (W := 0) (rm2_2 l Z aZ hw [] r0_96 r0_83 (v0_40 p0 q1 q2 q3) (v0_56 p0 q1 q2 q3) (v0_10 p0 q1 q2 q3) (v0_17 p0 q1 q2 q3) T22.heap n0 Z22 u22_1 fc23) hZ (hw _ (List.mem_of_getElem? (i := 8) rfl)) (hw _ (List.mem_of_getElem? (i := 7) rfl)) (by decide) (by decide)) (g := (mkF m 195 (la0_32 p0 q1 q2 q3 r0_83 r0_96) [(.ref r0_83), (.ref r0_96)])) rfl (by rw [hml]; rfl) (argsL := [(.ref r0_96), (.ref r0_83)]) (rest := []) (lenOf pd___I_I_Z rfl) rfl (by show 2 * 0 + _ ≤ _; exact Nat.le_of_eq rfl) (hb hby at_195) (fun _ _ => ⟨rfl, e27, (by decide : 2 + 0 ≤ _), (by decide : 4 + 0 ≤ _)⟩)
    dsimp only [Pt.U, Pt.locs, Pt.cells, Pt.slots] at X28 l28 y28 z28 st28 hQ28
    subst l28 y28 z28
    obtain ⟨rfl, N28q, e28⟩ := hQ28
    have N28 := Fr.app N27 N28q
    refine OEnd.go (g' := (mkF m 198 (la0_32 p0 q1 q2 q3 r0_83 r0_96) [(.int (f2_2 (v0_40 p0 q1 q2 q3) (v0_56 p0 q1 q2 q3) (v0_10 p0 q1 q2 q3) (v0_17 p0 q1 q2 q3)))])) st28 ?_
    refine OEnd.go (T' := T28) (g' := (mkF m 204 (la0_33 p0 q1 q2 q3 r0_83 r0_96) [(.int (v0_180 p0 q1 q2 q3)), (.int (v0_189x p0 q1 q2 q3))])) (fun t k => ?_) ?_
    · show Steps p.tables e below (T28.setTop (mkF m 198 (la0_32 p0 q1 q2 q3 r0_83 r0_96) [(.int (f2_2 (v0_40 p0 q1 q2 q3) (v0_56 p0 q1 q2 q3) (v0_10 p0 q1 q2 q3) (v0_17 p0 q1 q2 q3)))])) t
      refine XS.istore X28.here hx rfl (hb hby at_198) rfl (l' := (la0_33 p0 q1 q2 q3 r0_83 r0_96)) rfl ?_
      show Steps p.tables e below (T28.setTop (mkF m 200 (la0_33 p0 q1 q2 q3 r0_83 r0_96) [])) t
      refine XS.iload X28.here hx rfl (hb hby at_200) rfl ?_
      show Steps p.tables e below (T28.setTop (mkF m 202 (la0_33 p0 q1 q2 q3 r0_83 r0_96) [(.int (v0_189x p0 q1 q2 q3))])) t
      refine XS.iload X28.here hx rfl (hb hby at_202) rfl ?_
      show Steps p.tables e below (T28.setTop (mkF m 204 (la0_33 p0 q1 q2 q3 r0_83 r0_96) [(.int (v0_180 p0 q1 q2 q3)), (.int (v0_189x p0 q1 q2 q3))])) t
      exact k
    refine OEnd.go (T' := T28) (g' := (mkF m 212 (la0_33 p0 q1 q2 q3 r0_83 r0_96) [(.int (if (v0_180 p0 q1 q2 q3) < (0 : Int32) then (1 : Int32) else (0 : Int32))), (.int (v0_189x p0 q1 q2 q3))])) (fun t k => ?_) ?_
    · show Steps p.tables e below (T28.setTop (mkF m 204 (la0_33 p0 q1 q2 q3 r0_83 r0_96) [(.int (v0_180 p0 q1 q2 q3)), (.int (v0_189x p0 q1 q2 q3))])) t
      by_cases hc29 : (v0_180 p0 q1 q2 q3) < (0 : Int32)
      · skip
        refine XS.ifNo X28.here hx rfl (hb hby at_204) rfl ((if0 _ _).trans (tlt (hc29)).2.1) ?_
        show Steps p.tables e below (T28.setTop (mkF m 207 (la0_33 p0 q1 q2 q3 r0_83 r0_96) [(.int (v0_189x p0 q1 q2 q3))])) t
        refine SGo.go (T' := T28) (g' := (mkF m 212 (la0_33 p0 q1 q2 q3 r0_83 r0_96) [(.int (1 : Int32)), (.int (v0_189x p0 q1 q2 q3))])) (fun t k => ?_) ?_
        · show Steps p.tables e below (T28.setTop (mkF m 207 (la0_33 p0 q1 q2 q3 r0_83 r0_96) [(.int (v0_189x p0 q1 q2 q3))])) t
          refine XS.iconst X28.here hx rfl (hb hby at_207) ?_
          show Steps p.tables e below (T28.setTop (mkF m 208 (la0_33 p0 q1 q2 q3 r0_83 r0_96) [(.int (1 : Int32)), (.int (v0_189x p0 q1 q2 q3))])) t
          refine XS.goto X28.here hx rfl (pc0 := 208) (pc' := 212) rfl (hb hby at_208) (by decide) (by decide) ?_
          show Steps p.tables e below (T28.setTop (mkF m 212 (la0_33 p0 q1 q2 q3 r0_83 r0_96) [(.int (1 : Int32)), (.int (v0_189x p0 q1 q2 q3))])) t
          exact k
        exact (own_k (f := fun (z : Int32) => mkF m 212 #[.val (.int p0), .val (.long q1), .second, .val (.long q2), .second, .val (.long q3), .second, .val (.int (2 : Int32)), .val (.int (v0_10 p0 q1 q2 q3)), .val (.int (v0_17 p0 q1 q2 q3)), .val (.int (v0_25 p0 q1 q2 q3)), .val (.int (v0_40 p0 q1 q2 q3)), .val (.int (v0_56 p0 q1 q2 q3)), .val (.int (v0_73 p0 q1 q2 q3)), .val (.ref r0_83), .val (.ref r0_96), .val (.int (0 : Int32)), .val (.int (v0_137 p0 q1 q2 q3)), .val (.int (v0_156 p0 q1 q2 q3)), .val (.int (v0_180 p0 q1 q2 q3)), .val (.int (v0_189x p0 q1 q2 q3)), .val (.int (v0_198x p0 q1 q2 q3))] [(.int z), (.int (v0_189x p0 q1 q2 q3))]) (if_pos hc29) k)
      · skip
        refine XS.ifYes X28.here hx rfl (pc0 := 204) (pc' := 211) rfl (hb hby at_204) rfl ((if0 _ _).trans (flt (hc29)).2.1) (by decide) (by decide) ?_
        show Steps p.tables e below (T28.setTop (mkF m 211 (la0_33 p0 q1 q2 q3 r0_83 r0_96) [(.int (v0_189x p0 q1 q2 q3))])) t
        refine SGo.go (T' := T28) (g' := (mkF m 212 (la0_33 p0 q1 q2 q3 r0_83 r0_96) [(.int (0 : Int32)), (.int (v0_189x p0 q1 q2 q3))])) (fun t k => ?_) ?_
        · show Steps p.tables e below (T28.setTop (mkF m 211 (la0_33 p0 q1 q2 q3 r0_83 r0_96) [(.int (v0_189x p0 q1 q2 q3))])) t
          refine XS.iconst X28.here hx rfl (hb hby at_211) ?_
          show Steps p.tables e below (T28.setTop (mkF m 212 (la0_33 p0 q1 q2 q3 r0_83 r0_96) [(.int (0 : Int32)), (.int (v0_189x p0 q1 q2 q3))])) t
          exact k
        exact (own_k (f := fun (z : Int32) => mkF m 212 #[.val (.int p0), .val (.long q1), .second, .val (.long q2), .second, .val (.long q3), .second, .val (.int (2 : Int32)), .val (.int (v0_10 p0 q1 q2 q3)), .val (.int (v0_17 p0 q1 q2 q3)), .val (.int (v0_25 p0 q1 q2 q3)), .val (.int (v0_40 p0 q1 q2 q3)), .val (.int (v0_56 p0 q1 q2 q3)), .val (.int (v0_73 p0 q1 q2 q3)), .val (.ref r0_83), .val (.ref r0_96), .val (.int (0 : Int32)), .val (.int (v0_137 p0 q1 q2 q3)), .val (.int (v0_156 p0 q1 q2 q3)), .val (.int (v0_180 p0 q1 q2 q3)), .val (.int (v0_189x p0 q1 q2 q3)), .val (.int (v0_198x p0 q1 q2 q3))] [(.int z), (.int (v0_189x p0 q1 q2 q3))]) (if_neg hc29) k)
    refine OEnd.go (T' := T28) (g' := (mkF m 235 (la0_33 p0 q1 q2 q3 r0_83 r0_96) [(.int (if (v0_189x p0 q1 q2 q3) = (v0_212_s0x p0 q1 q2 q3) then (if (v0_198x p0 q1 q2 q3) = (v0_227_s0x p0 q1 q2 q3) then (1 : Int32) else (0 : Int32)) else (0 : Int32)))])) (fun t k => ?_) ?_
    · show Steps p.tables e below (T28.setTop (mkF m 212 (la0_33 p0 q1 q2 q3 r0_83 r0_96) [(.int (v0_212_s0x p0 q1 q2 q3)), (.int (v0_189x p0 q1 q2 q3))])) t
      by_cases hc30 : (v0_189x p0 q1 q2 q3) = (v0_212_s0x p0 q1 q2 q3)
      · skip
        refine XS.icmpNo X28.here hx rfl (hb hby at_212) rfl (teq (hc30)).2 ?_
        show Steps p.tables e below (T28.setTop (mkF m 215 (la0_33 p0 q1 q2 q3 r0_83 r0_96) [])) t
        refine SGo.go (T' := T28) (g' := (mkF m 219 (la0_33 p0 q1 q2 q3 r0_83 r0_96) [(.int (v0_180 p0 q1 q2 q3)), (.int (v0_198x p0 q1 q2 q3))])) (fun t k => ?_) ?_
        · show Steps p.tables e below (T28.setTop (mkF m 215 (la0_33 p0 q1 q2 q3 r0_83 r0_96) [])) t
          refine XS.iload X28.here hx rfl (hb hby at_215) rfl ?_
          show Steps p.tables e below (T28.setTop (mkF m 217 (la0_33 p0 q1 q2 q3 r0_83 r0_96) [(.int (v0_198x p0 q1 q2 q3))])) t
          refine XS.iload X28.here hx rfl (hb hby at_217) rfl ?_
          show Steps p.tables e below (T28.setTop (mkF m 219 (la0_33 p0 q1 q2 q3 r0_83 r0_96) [(.int (v0_180 p0 q1 q2 q3)), (.int (v0_198x p0 q1 q2 q3))])) t
          exact k
        refine SGo.go (T' := T28) (g' := (mkF m 227 (la0_33 p0 q1 q2 q3 r0_83 r0_96) [(.int (if (0 : Int32) < (v0_180 p0 q1 q2 q3) then (1 : Int32) else (0 : Int32))), (.int (v0_198x p0 q1 q2 q3))])) (fun t k => ?_) ?_
        · show Steps p.tables e below (T28.setTop (mkF m 219 (la0_33 p0 q1 q2 q3 r0_83 r0_96) [(.int (v0_180 p0 q1 q2 q3)), (.int (v0_198x p0 q1 q2 q3))])) t
          by_cases hc31 : (0 : Int32) < (v0_180 p0 q1 q2 q3)
          · skip
            refine XS.ifNo X28.here hx rfl (hb hby at_219) rfl ((if0 _ _).trans (tlt (hc31)).2.2.2) ?_
            show Steps p.tables e below (T28.setTop (mkF m 222 (la0_33 p0 q1 q2 q3 r0_83 r0_96) [(.int (v0_198x p0 q1 q2 q3))])) t
            refine SGo.go (T' := T28) (g' := (mkF m 227 (la0_33 p0 q1 q2 q3 r0_83 r0_96) [(.int (1 : Int32)), (.int (v0_198x p0 q1 q2 q3))])) (fun t k => ?_) ?_
            · show Steps p.tables e below (T28.setTop (mkF m 222 (la0_33 p0 q1 q2 q3 r0_83 r0_96) [(.int (v0_198x p0 q1 q2 q3))])) t
              refine XS.iconst X28.here hx rfl (hb hby at_222) ?_
              show Steps p.tables e below (T28.setTop (mkF m 223 (la0_33 p0 q1 q2 q3 r0_83 r0_96) [(.int (1 : Int32)), (.int (v0_198x p0 q1 q2 q3))])) t
              refine XS.goto X28.here hx rfl (pc0 := 223) (pc' := 227) rfl (hb hby at_223) (by decide) (by decide) ?_
              show Steps p.tables e below (T28.setTop (mkF m 227 (la0_33 p0 q1 q2 q3 r0_83 r0_96) [(.int (1 : Int32)), (.int (v0_198x p0 q1 q2 q3))])) t
              exact k
            exact (own_k (f := fun (z : Int32) => mkF m 227 #[.val (.int p0), .val (.long q1), .second, .val (.long q2), .second, .val (.long q3), .second, .val (.int (2 : Int32)), .val (.int (v0_10 p0 q1 q2 q3)), .val (.int (v0_17 p0 q1 q2 q3)), .val (.int (v0_25 p0 q1 q2 q3)), .val (.int (v0_40 p0 q1 q2 q3)), .val (.int (v0_56 p0 q1 q2 q3)), .val (.int (v0_73 p0 q1 q2 q3)), .val (.ref r0_83), .val (.ref r0_96), .val (.int (0 : Int32)), .val (.int (v0_137 p0 q1 q2 q3)), .val (.int (v0_156 p0 q1 q2 q3)), .val (.int (v0_180 p0 q1 q2 q3)), .val (.int (v0_189x p0 q1 q2 q3)), .val (.int (v0_198x p0 q1 q2 q3))] [(.int z), (.int (v0_198x p0 q1 q2 q3))]) (if_pos hc31) k)
          · skip
            refine XS.ifYes X28.here hx rfl (pc0 := 219) (pc' := 226) rfl (hb hby at_219) rfl ((if0 _ _).trans (flt (hc31)).2.2.2) (by decide) (by decide) ?_
            show Steps p.tables e below (T28.setTop (mkF m 226 (la0_33 p0 q1 q2 q3 r0_83 r0_96) [(.int (v0_198x p0 q1 q2 q3))])) t
            refine SGo.go (T' := T28) (g' := (mkF m 227 (la0_33 p0 q1 q2 q3 r0_83 r0_96) [(.int (0 : Int32)), (.int (v0_198x p0 q1 q2 q3))])) (fun t k => ?_) ?_
            · show Steps p.tables e below (T28.setTop (mkF m 226 (la0_33 p0 q1 q2 q3 r0_83 r0_96) [(.int (v0_198x p0 q1 q2 q3))])) t
              refine XS.iconst X28.here hx rfl (hb hby at_226) ?_
              show Steps p.tables e below (T28.setTop (mkF m 227 (la0_33 p0 q1 q2 q3 r0_83 r0_96) [(.int (0 : Int32)), (.int (v0_198x p0 q1 q2 q3))])) t
              exact k
            exact (own_k (f := fun (z : Int32) => mkF m 227 #[.val (.int p0), .val (.long q1), .second, .val (.long q2), .second, .val (.long q3), .second, .val (.int (2 : Int32)), .val (.int (v0_10 p0 q1 q2 q3)), .val (.int (v0_17 p0 q1 q2 q3)), .val (.int (v0_25 p0 q1 q2 q3)), .val (.int (v0_40 p0 q1 q2 q3)), .val (.int (v0_56 p0 q1 q2 q3)), .val (.int (v0_73 p0 q1 q2 q3)), .val (.ref r0_83), .val (.ref r0_96), .val (.int (0 : Int32)), .val (.int (v0_137 p0 q1 q2 q3)), .val (.int (v0_156 p0 q1 q2 q3)), .val (.int (v0_180 p0 q1 q2 q3)), .val (.int (v0_189x p0 q1 q2 q3)), .val (.int (v0_198x p0 q1 q2 q3))] [(.int z), (.int (v0_198x p0 q1 q2 q3))]) (if_neg hc31) k)
        by_cases hc32 : (v0_198x p0 q1 q2 q3) = (v0_227_s0x p0 q1 q2 q3)
        · skip
          refine XS.icmpNo X28.here hx rfl (hb hby at_227) rfl (teq (hc32)).2 ?_
          show Steps p.tables e below (T28.setTop (mkF m 230 (la0_33 p0 q1 q2 q3 r0_83 r0_96) [])) t
          refine SGo.go (T' := T28) (g' := (mkF m 235 (la0_33 p0 q1 q2 q3 r0_83 r0_96) [(.int (1 : Int32))])) (fun t k => ?_) ?_
          · show Steps p.tables e below (T28.setTop (mkF m 230 (la0_33 p0 q1 q2 q3 r0_83 r0_96) [])) t
            refine XS.iconst X28.here hx rfl (hb hby at_230) ?_
            show Steps p.tables e below (T28.setTop (mkF m 231 (la0_33 p0 q1 q2 q3 r0_83 r0_96) [(.int (1 : Int32))])) t
            refine XS.goto X28.here hx rfl (pc0 := 231) (pc' := 235) rfl (hb hby at_231) (by decide) (by decide) ?_
            show Steps p.tables e below (T28.setTop (mkF m 235 (la0_33 p0 q1 q2 q3 r0_83 r0_96) [(.int (1 : Int32))])) t
            exact k
          exact (own_k (f := fun (z : Int32) => mkF m 235 #[.val (.int p0), .val (.long q1), .second, .val (.long q2), .second, .val (.long q3), .second, .val (.int (2 : Int32)), .val (.int (v0_10 p0 q1 q2 q3)), .val (.int (v0_17 p0 q1 q2 q3)), .val (.int (v0_25 p0 q1 q2 q3)), .val (.int (v0_40 p0 q1 q2 q3)), .val (.int (v0_56 p0 q1 q2 q3)), .val (.int (v0_73 p0 q1 q2 q3)), .val (.ref r0_83), .val (.ref r0_96), .val (.int (0 : Int32)), .val (.int (v0_137 p0 q1 q2 q3)), .val (.int (v0_156 p0 q1 q2 q3)), .val (.int (v0_180 p0 q1 q2 q3)), .val (.int (v0_189x p0 q1 q2 q3)), .val (.int (v0_198x p0 q1 q2 q3))] [(.int z)]) ((if_pos hc30).trans (if_pos hc32)) k)
        · skip
          refine XS.icmpYes X28.here hx rfl (pc0 := 227) (pc' := 234) rfl (hb hby at_227) rfl (feq (hc32)).2 (by decide) (by decide) ?_
          show Steps p.tables e below (T28.setTop (mkF m 234 (la0_33 p0 q1 q2 q3 r0_83 r0_96) [])) t
          refine SGo.go (T' := T28) (g' := (mkF m 235 (la0_33 p0 q1 q2 q3 r0_83 r0_96) [(.int (0 : Int32))])) (fun t k => ?_) ?_
          · show Steps p.tables e below (T28.setTop (mkF m 234 (la0_33 p0 q1 q2 q3 r0_83 r0_96) [])) t
            refine XS.iconst X28.here hx rfl (hb hby at_234) ?_
            show Steps p.tables e below (T28.setTop (mkF m 235 (la0_33 p0 q1 q2 q3 r0_83 r0_96) [(.int (0 : Int32))])) t
            exact k
          exact (own_k (f := fun (z : Int32) => mkF m 235 #[.val (.int p0), .val (.long q1), .second, .val (.long q2), .second, .val (.long q3), .second, .val (.int (2 : Int32)), .val (.int (v0_10 p0 q1 q2 q3)), .val (.int (v0_17 p0 q1 q2 q3)), .val (.int (v0_25 p0 q1 q2 q3)), .val (.int (v0_40 p0 q1 q2 q3)), .val (.int (v0_56 p0 q1 q2 q3)), .val (.int (v0_73 p0 q1 q2 q3)), .val (.ref r0_83), .val (.ref r0_96), .val (.int (0 : Int32)), .val (.int (v0_137 p0 q1 q2 q3)), .val (.int (v0_156 p0 q1 q2 q3)), .val (.int (v0_180 p0 q1 q2 q3)), .val (.int (v0_189x p0 q1 q2 q3)), .val (.int (v0_198x p0 q1 q2 q3))] [(.int z)]) ((if_pos hc30).trans (if_neg hc32)) k)
      · skip
        refine XS.icmpYes X28.here hx rfl (pc0 := 212) (pc' := 234) rfl (hb hby at_212) rfl (feq (hc30)).2 (by decide) (by decide) ?_
        show Steps p.tables e below (T28.setTop (mkF m 234 (la0_33 p0 q1 q2 q3 r0_83 r0_96) [])) t
        refine SGo.go (T' := T28) (g' := (mkF m 235 (la0_33 p0 q1 q2 q3 r0_83 r0_96) [(.int (0 : Int32))])) (fun t k => ?_) ?_
        · show Steps p.tables e below (T28.setTop (mkF m 234 (la0_33 p0 q1 q2 q3 r0_83 r0_96) [])) t
          refine XS.iconst X28.here hx rfl (hb hby at_234) ?_
          show Steps p.tables e below (T28.setTop (mkF m 235 (la0_33 p0 q1 q2 q3 r0_83 r0_96) [(.int (0 : Int32))])) t
          exact k
        exact (own_k (f := fun (z : Int32) => mkF m 235 #[.val (.int p0), .val (.long q1), .second, .val (.long q2), .second, .val (.long q3), .second, .val (.int (2 : Int32)), .val (.int (v0_10 p0 q1 q2 q3)), .val (.int (v0_17 p0 q1 q2 q3)), .val (.int (v0_25 p0 q1 q2 q3)), .val (.int (v0_40 p0 q1 q2 q3)), .val (.int (v0_56 p0 q1 q2 q3)), .val (.int (v0_73 p0 q1 q2 q3)), .val (.ref r0_83), .val (.ref r0_96), .val (.int (0 : Int32)), .val (.int (v0_137 p0 q1 q2 q3)), .val (.int (v0_156 p0 q1 q2 q3)), .val (.int (v0_180 p0 q1 q2 q3)), .val (.int (v0_189x p0 q1 q2 q3)), .val (.int (v0_198x p0 q1 q2 q3))] [(.int z)]) (if_neg hc30) k)
    exact OEnd.nar X28 hx (t := .boolean) Bd.returns (by simp) hlk (hb hby at_235) ⟨(congrArg (fun z => some (Value.int (nar .boolean z))) (own_plain_2 p0 q1 q2 q3)), N28⟩ (by decide) (by decide)
  · skip
    refine OEnd.go (T' := s₁) (g' := (mkF m 75 (la0_34 p0 q1 q2 q3) [])) (fun t k => (own_k (f := fun (z : Int32) => mkF m 75 #[.val (.int p0), .val (.long q1), .second, .val (.long q2), .second, .val (.long q3), .second, .val (.int z), .val (.int (v0_10 p0 q1 q2 q3)), .val (.int (v0_17 p0 q1 q2 q3)), .val (.int (v0_25 p0 q1 q2 q3)), .val (.int (v0_40 p0 q1 q2 q3)), .val (.int (v0_56 p0 q1 q2 q3)), .val (.int (v0_73 p0 q1 q2 q3)), .unset, .unset, .unset, .unset, .unset, .unset, .unset, .unset] []) hs4.symm k)) ?_
    refine OEnd.go (T' := s₁) (g' := (mkF m 83 (la0_34 p0 q1 q2 q3) [(.int (v0_25 p0 q1 q2 q3)), (.int (v0_17 p0 q1 q2 q3)), (.int (v0_10 p0 q1 q2 q3)), (.int (3 : Int32))])) (fun t k => ?_) ?_
    · show Steps p.tables e below (s₁.setTop (mkF m 75 (la0_34 p0 q1 q2 q3) [])) t
      refine XS.iload X0.here hx rfl (hb hby at_75) rfl ?_
      show Steps p.tables e below (s₁.setTop (mkF m 77 (la0_34 p0 q1 q2 q3) [(.int (3 : Int32))])) t
      refine XS.iload X0.here hx rfl (hb hby at_77) rfl ?_
      show Steps p.tables e below (s₁.setTop (mkF m 79 (la0_34 p0 q1 q2 q3) [(.int (v0_10 p0 q1 q2 q3)), (.int (3 : Int32))])) t
      refine XS.iload X0.here hx rfl (hb hby at_79) rfl ?_
      show Steps p.tables e below (s₁.setTop (mkF m 81 (la0_34 p0 q1 q2 q3) [(.int (v0_17 p0 q1 q2 q3)), (.int (v0_10 p0 q1 q2 q3)), (.int (3 : Int32))])) t
      refine XS.iload X0.here hx rfl (hb hby at_81) rfl ?_
      show Steps p.tables e below (s₁.setTop (mkF m 83 (la0_34 p0 q1 q2 q3) [(.int (v0_25 p0 q1 q2 q3)), (.int (v0_17 p0 q1 q2 q3)), (.int (v0_10 p0 q1 q2 q3)), (.int (3 : Int32))])) t
      exact k
    obtain ⟨_, _, ⟨T33, L33, k33, n33⟩, -, X33, ⟨Lc33, hQ33, l33, y33, z33⟩, st33⟩ := Jvm.LawKit.callS X0 hx (y := (⟨"com/example/assentor/assentor/check/OdometerBeforePinLaw", "mk", "(IIII)[I"⟩ : MethodName)) hown (mvT hZ (hw _ (List.mem_of_getElem? (i := 0) rfl))) (mvT hZ (hw _ (List.mem_of_getElem? (i := 1) rfl))) (mvT hZ (hw _ (List.mem_of_getElem? (i := 2) rfl))) (mvT hZ (hw _ (List.mem_of_getElem? (i := 3) rfl))) (by decide) (backOf (W := 0) (rm1_3 l Z aZ hw [] (v0_10 p0 q1 q2 q3) (v0_17 p0 q1 q2 q3) (v0_25 p0 q1 q2 q3) h0 n0 Z0 ) hZ (hw _ (List.mem_of_getElem? (i := 3) rfl)) (hw _ (List.mem_of_getElem? (i := 2) rfl)) (by decide) (by decide)) (g := (mkF m 83 (la0_34 p0 q1 q2 q3) [(.int (v0_25 p0 q1 q2 q3)), (.int (v0_17 p0 q1 q2 q3)), (.int (v0_10 p0 q1 q2 q3)), (.int (3 : Int32))])) rfl (by rw [hml]; rfl) (argsL := [(.int (3 : Int32)), (.int (v0_10 p0 q1 q2 q3)), (.int (v0_17 p0 q1 q2 q3)), (.int (v0_25 p0 q1 q2 q3))]) (rest := []) (lenOf pd__IIII__I rfl) rfl (by show 2 * 0 + _ ≤ _; exact Nat.le_of_eq rfl) (hb hby at_83) (fun _ _ => ⟨rfl, e0, (by decide : 0 + 1 ≤ _), (by decide : 0 + 3 ≤ _)⟩)
    dsimp only [Pt.U, Pt.locs, Pt.cells, Pt.slots] at X33 l33 y33 z33 st33 hQ33
    subst l33 y33 z33
    obtain ⟨r0_83, rfl, gle_r0_83, sz_r0_83', N33q, u33_0, u33_1⟩ := hQ33
    have N33 := Fr.app N0 N33q
    have Z33 : n0 ≤ T33.heap.size := Nat.le_trans Z0 u33_0.1
    refine OEnd.go (g' := (mkF m 86 (la0_34 p0 q1 q2 q3) [(.ref r0_83)])) st33 ?_
    refine OEnd.go (T' := T33) (g' := (mkF m 96 (la0_35 p0 q1 q2 q3 r0_83) [(.int (v0_73 p0 q1 q2 q3)), (.int (v0_56 p0 q1 q2 q3)), (.int (v0_40 p0 q1 q2 q3)), (.int (3 : Int32))])) (fun t k => ?_) ?_
    · show Steps p.tables e below (T33.setTop (mkF m 86 (la0_34 p0 q1 q2 q3) [(.ref r0_83)])) t
      refine XS.astore X33.here hx rfl (hb hby at_86) rfl rfl (l' := (la0_35 p0 q1 q2 q3 r0_83)) rfl ?_
      show Steps p.tables e below (T33.setTop (mkF m 88 (la0_35 p0 q1 q2 q3 r0_83) [])) t
      refine XS.iload X33.here hx rfl (hb hby at_88) rfl ?_
      show Steps p.tables e below (T33.setTop (mkF m 90 (la0_35 p0 q1 q2 q3 r0_83) [(.int (3 : Int32))])) t
      refine XS.iload X33.here hx rfl (hb hby at_90) rfl ?_
      show Steps p.tables e below (T33.setTop (mkF m 92 (la0_35 p0 q1 q2 q3 r0_83) [(.int (v0_40 p0 q1 q2 q3)), (.int (3 : Int32))])) t
      refine XS.iload X33.here hx rfl (hb hby at_92) rfl ?_
      show Steps p.tables e below (T33.setTop (mkF m 94 (la0_35 p0 q1 q2 q3 r0_83) [(.int (v0_56 p0 q1 q2 q3)), (.int (v0_40 p0 q1 q2 q3)), (.int (3 : Int32))])) t
      refine XS.iload X33.here hx rfl (hb hby at_94) rfl ?_
      show Steps p.tables e below (T33.setTop (mkF m 96 (la0_35 p0 q1 q2 q3 r0_83) [(.int (v0_73 p0 q1 q2 q3)), (.int (v0_56 p0 q1 q2 q3)), (.int (v0_40 p0 q1 q2 q3)), (.int (3 : Int32))])) t
      exact k
    obtain ⟨_, _, ⟨T34, L34, k34, n34⟩, -, X34, ⟨Lc34, hQ34, l34, y34, z34⟩, st34⟩ := Jvm.LawKit.callS X33 hx (y := (⟨"com/example/assentor/assentor/check/OdometerBeforePinLaw", "mk", "(IIII)[I"⟩ : MethodName)) hown (mvT hZ (hw _ (List.mem_of_getElem? (i := 0) rfl))) (mvT hZ (hw _ (List.mem_of_getElem? (i := 1) rfl))) (mvT hZ (hw _ (List.mem_of_getElem? (i := 2) rfl))) (mvT hZ (hw _ (List.mem_of_getElem? (i := 3) rfl))) (by decide) (backOf (W := 0) (rm1_3 l Z aZ hw [] (v0_40 p0 q1 q2 q3) (v0_56 p0 q1 q2 q3) (v0_73 p0 q1 q2 q3) T33.heap n0 Z33 ) hZ (hw _ (List.mem_of_getElem? (i := 3) rfl)) (hw _ (List.mem_of_getElem? (i := 2) rfl)) (by decide) (by decide)) (g := (mkF m 96 (la0_35 p0 q1 q2 q3 r0_83) [(.int (v0_73 p0 q1 q2 q3)), (.int (v0_56 p0 q1 q2 q3)), (.int (v0_40 p0 q1 q2 q3)), (.int (3 : Int32))])) rfl (by rw [hml]; rfl) (argsL := [(.int (3 : Int32)), (.int (v0_40 p0 q1 q2 q3)), (.int (v0_56 p0 q1 q2 q3)), (.int (v0_73 p0 q1 q2 q3))]) (rest := []) (lenOf pd__IIII__I rfl) rfl (by show 2 * 0 + _ ≤ _; exact Nat.le_of_eq rfl) (hb hby at_96) (fun _ _ => ⟨rfl, rfl, (by decide : 1 + 1 ≤ _), (by decide : 3 + 3 ≤ _)⟩)
    dsimp only [Pt.U, Pt.locs, Pt.cells, Pt.slots] at X34 l34 y34 z34 st34 hQ34
    subst l34 y34 z34
    obtain ⟨r0_96, rfl, gle_r0_96, sz_r0_96', N34q, u34_0, u34_1⟩ := hQ34
    have ne_r0_83_r0_96 : r0_83 ≠ r0_96 := Nat.ne_of_lt (Nat.lt_of_lt_of_le u33_1.lt sz_r0_96')
    have N34 := Fr.app N33 N34q
    have Z34 : n0 ≤ T34.heap.size := Nat.le_trans Z33 u34_0.1
    have fc35 : OArr Z T34.heap r0_83 .int (3 : Int32) [(.int (v0_10 p0 q1 q2 q3)), (.int (v0_17 p0 q1 q2 q3)), (.int (v0_25 p0 q1 q2 q3))] (.int (0 : Int32)) := (u33_1.keep u34_0 nin0)
    refine OEnd.go (g' := (mkF m 99 (la0_35 p0 q1 q2 q3 r0_83) [(.ref r0_96)])) st34 ?_
    refine OEnd.go (T' := T34) (g' := (mkF m 111 (la0_36 p0 q1 q2 q3 r0_83 r0_96) [(.int (v0_73 p0 q1 q2 q3)), (.int (v0_25 p0 q1 q2 q3))])) (fun t k => ?_) ?_
    · show Steps p.tables e below (T34.setTop (mkF m 99 (la0_35 p0 q1 q2 q3 r0_83) [(.ref r0_96)])) t
      refine XS.astore X34.here hx rfl (hb hby at_99) rfl rfl (l' := (la0_36 p0 q1 q2 q3 r0_83 r0_96)) rfl ?_
      show Steps p.tables e below (T34.setTop (mkF m 101 (la0_36 p0 q1 q2 q3 r0_83 r0_96) [])) t
      refine XS.iload X34.here hx rfl (hb hby at_101) rfl ?_
      show Steps p.tables e below (T34.setTop (mkF m 103 (la0_36 p0 q1 q2 q3 r0_83 r0_96) [(.int (3 : Int32))])) t
      refine XS.iconst X34.here hx rfl (hb hby at_103) ?_
      show Steps p.tables e below (T34.setTop (mkF m 104 (la0_36 p0 q1 q2 q3 r0_83 r0_96) [(.int (3 : Int32)), (.int (3 : Int32))])) t
      refine XS.icmpNo X34.here hx rfl (hb hby at_104) rfl (flt ((by decide))).1 ?_
      show Steps p.tables e below (T34.setTop (mkF m 107 (la0_36 p0 q1 q2 q3 r0_83 r0_96) [])) t
      refine XS.iload X34.here hx rfl (hb hby at_107) rfl ?_
      show Steps p.tables e below (T34.setTop (mkF m 109 (la0_36 p0 q1 q2 q3 r0_83 r0_96) [(.int (v0_25 p0 q1 q2 q3))])) t
      refine XS.iload X34.here hx rfl (hb hby at_109) rfl ?_
      show Steps p.tables e below (T34.setTop (mkF m 111 (la0_36 p0 q1 q2 q3 r0_83 r0_96) [(.int (v0_73 p0 q1 q2 q3)), (.int (v0_25 p0 q1 q2 q3))])) t
      exact k
    obtain ⟨_, _, ⟨T36, L36, k36, n36⟩, -, X36, ⟨Lc36, hQ36, l36, y36, z36⟩, st36⟩ := Jvm.LawKit.callS X34 hx (y := (⟨"com/example/assentor/assentor/check/OdometerBeforePinLaw", "sign", "(II)I"⟩ : MethodName)) hown (mvT hZ (hw _ (List.mem_of_getElem? (i := 9) rfl))) (mvT hZ (hw _ (List.mem_of_getElem? (i := 10) rfl))) (mvT hZ (hw _ (List.mem_of_getElem? (i := 2) rfl))) (mvT hZ (hw _ (List.mem_of_getElem? (i := 11) rfl))) (by decide) (backOf (W := 0) (rm3 l Z aZ hw [] (v0_25 p0 q1 q2 q3) (v0_73 p0 q1 q2 q3) T34.heap n0 Z34 ) hZ (hw _ (List.mem_of_getElem? (i := 11) rfl)) (hw _ (List.mem_of_getElem? (i := 2) rfl)) (by decide) (by decide)) (g := (mkF m 111 (la0_36 p0 q1 q2 q3 r0_83 r0_96) [(.int (v0_73 p0 q1 q2 q3)), (.int (v0_25 p0 q1 q2 q3))])) rfl (by rw [hml]; rfl) (argsL := [(.int (v0_25 p0 q1 q2 q3)), (.int (v0_73 p0 q1 q2 q3))]) (rest := []) (lenOf pd__II_I rfl) rfl (by show 2 * 0 + _ ≤ _; exact Nat.le_of_eq rfl) (hb hby at_111) (fun _ _ => ⟨rfl, rfl, (by decide : 2 + 0 ≤ _), (by decide : 6 + 0 ≤ _)⟩)
    dsimp only [Pt.U, Pt.locs, Pt.cells, Pt.slots] at X36 l36 y36 z36 st36 hQ36
    subst l36 y36 z36
    obtain ⟨rfl, N36q, e36⟩ := hQ36
    have N36 := Fr.app N34 N36q
    refine OEnd.go (g' := (mkF m 114 (la0_36 p0 q1 q2 q3 r0_83 r0_96) [(.int (f3 (v0_25 p0 q1 q2 q3) (v0_73 p0 q1 q2 q3)))])) st36 ?_
    refine OEnd.go (T' := T36) (g' := (mkF m 130 (la0_37 p0 q1 q2 q3 r0_83 r0_96) [(.int (v0_56 p0 q1 q2 q3)), (.int (v0_17 p0 q1 q2 q3))])) (fun t k => ?_) ?_
    · show Steps p.tables e below (T36.setTop (mkF m 114 (la0_36 p0 q1 q2 q3 r0_83 r0_96) [(.int (f3 (v0_25 p0 q1 q2 q3) (v0_73 p0 q1 q2 q3)))])) t
      refine XS.goto X36.here hx rfl (pc0 := 114) (pc' := 118) rfl (hb hby at_114) (by decide) (by decide) ?_
      show Steps p.tables e below (T36.setTop (mkF m 118 (la0_36 p0 q1 q2 q3 r0_83 r0_96) [(.int (f3 (v0_25 p0 q1 q2 q3) (v0_73 p0 q1 q2 q3)))])) t
      refine XS.istore X36.here hx rfl (hb hby at_118) rfl (l' := (la0_37 p0 q1 q2 q3 r0_83 r0_96)) rfl ?_
      show Steps p.tables e below (T36.setTop (mkF m 120 (la0_37 p0 q1 q2 q3 r0_83 r0_96) [])) t
      refine XS.iload X36.here hx rfl (hb hby at_120) rfl ?_
      show Steps p.tables e below (T36.setTop (mkF m 122 (la0_37 p0 q1 q2 q3 r0_83 r0_96) [(.int (3 : Int32))])) t
      refine XS.iconst X36.here hx rfl (hb hby at_122) ?_
      show Steps p.tables e below (T36.setTop (mkF m 123 (la0_37 p0 q1 q2 q3 r0_83 r0_96) [(.int (2 : Int32)), (.int (3 : Int32))])) t
      refine XS.icmpNo X36.here hx rfl (hb hby at_123) rfl (flt ((by decide))).1 ?_
      show Steps p.tables e below (T36.setTop (mkF m 126 (la0_37 p0 q1 q2 q3 r0_83 r0_96) [])) t
      refine XS.iload X36.here hx rfl (hb hby at_126) rfl ?_
      show Steps p.tables e below (T36.setTop (mkF m 128 (la0_37 p0 q1 q2 q3 r0_83 r0_96) [(.int (v0_17 p0 q1 q2 q3))])) t
      refine XS.iload X36.here hx rfl (hb hby at_128) rfl ?_
      show Steps p.tables e below (T36.setTop (mkF m 130 (la0_37 p0 q1 q2 q3 r0_83 r0_96) [(.int (v0_56 p0 q1 q2 q3)), (.int (v0_17 p0 q1 q2 q3))])) t
      exact k
    obtain ⟨_, _, ⟨T37, L37, k37, n37⟩, -, X37, ⟨Lc37, hQ37, l37, y37, z37⟩, st37⟩ := Jvm.LawKit.callS X36 hx (y := (⟨"com/example/assentor/assentor/check/OdometerBeforePinLaw", "sign", "(II)I"⟩ : MethodName)) hown (mvT hZ (hw _ (List.mem_of_getElem? (i := 9) rfl))) (mvT hZ (hw _ (List.mem_of_getElem? (i := 10) rfl))) (mvT hZ (hw _ (List.mem_of_getElem? (i := 2) rfl))) (mvT hZ (hw _ (List.mem_of_getElem? (i := 11) rfl))) (by decide) (backOf (W := 0) (rm3 l Z aZ hw [] (v0_17 p0 q1 q2 q3) (v0_56 p0 q1 q2 q3) T34.heap n0 Z34 ) hZ (hw _ (List.mem_of_getElem? (i := 11) rfl)) (hw _ (List.mem_of_getElem? (i := 2) rfl)) (by decide) (by decide)) (g := (mkF m 130 (la0_37 p0 q1 q2 q3 r0_83 r0_96) [(.int (v0_56 p0 q1 q2 q3)), (.int (v0_17 p0 q1 q2 q3))])) rfl (by rw [hml]; rfl) (argsL := [(.int (v0_17 p0 q1 q2 q3)), (.int (v0_56 p0 q1 q2 q3))]) (rest := []) (lenOf pd__II_I rfl) rfl (by show 2 * 0 + _ ≤ _; exact Nat.le_of_eq rfl) (hb hby at_130) (fun _ _ => ⟨rfl, e36, (by decide : 2 + 0 ≤ _), (by decide : 6 + 0 ≤ _)⟩)
    dsimp only [Pt.U, Pt.locs, Pt.cells, Pt.slots] at X37 l37 y37 z37 st37 hQ37
    subst l37 y37 z37
    obtain ⟨rfl, N37q, e37⟩ := hQ37
    have N37 := Fr.app N36 N37q
    refine OEnd.go (g' := (mkF m 133 (la0_37 p0 q1 q2 q3 r0_83 r0_96) [(.int (f3 (v0_17 p0 q1 q2 q3) (v0_56 p0 q1 q2 q3)))])) st37 ?_
    refine OEnd.go (T' := T37) (g' := (mkF m 149 (la0_38 p0 q1 q2 q3 r0_83 r0_96) [(.int (v0_40 p0 q1 q2 q3)), (.int (v0_10 p0 q1 q2 q3))])) (fun t k => ?_) ?_
    · show Steps p.tables e below (T37.setTop (mkF m 133 (la0_37 p0 q1 q2 q3 r0_83 r0_96) [(.int (f3 (v0_17 p0 q1 q2 q3) (v0_56 p0 q1 q2 q3)))])) t
      refine XS.goto X37.here hx rfl (pc0 := 133) (pc' := 137) rfl (hb hby at_133) (by decide) (by decide) ?_
      show Steps p.tables e below (T37.setTop (mkF m 137 (la0_37 p0 q1 q2 q3 r0_83 r0_96) [(.int (f3 (v0_17 p0 q1 q2 q3) (v0_56 p0 q1 q2 q3)))])) t
      refine XS.istore X37.here hx rfl (hb hby at_137) rfl (l' := (la0_38 p0 q1 q2 q3 r0_83 r0_96)) rfl ?_
      show Steps p.tables e below (T37.setTop (mkF m 139 (la0_38 p0 q1 q2 q3 r0_83 r0_96) [])) t
      refine XS.iload X37.here hx rfl (hb hby at_139) rfl ?_
      show Steps p.tables e below (T37.setTop (mkF m 141 (la0_38 p0 q1 q2 q3 r0_83 r0_96) [(.int (3 : Int32))])) t
      refine XS.iconst X37.here hx rfl (hb hby at_141) ?_
      show Steps p.tables e below (T37.setTop (mkF m 142 (la0_38 p0 q1 q2 q3 r0_83 r0_96) [(.int (1 : Int32)), (.int (3 : Int32))])) t
      refine XS.icmpNo X37.here hx rfl (hb hby at_142) rfl (flt ((by decide))).1 ?_
      show Steps p.tables e below (T37.setTop (mkF m 145 (la0_38 p0 q1 q2 q3 r0_83 r0_96) [])) t
      refine XS.iload X37.here hx rfl (hb hby at_145) rfl ?_
      show Steps p.tables e below (T37.setTop (mkF m 147 (la0_38 p0 q1 q2 q3 r0_83 r0_96) [(.int (v0_10 p0 q1 q2 q3))])) t
      refine XS.iload X37.here hx rfl (hb hby at_147) rfl ?_
      show Steps p.tables e below (T37.setTop (mkF m 149 (la0_38 p0 q1 q2 q3 r0_83 r0_96) [(.int (v0_40 p0 q1 q2 q3)), (.int (v0_10 p0 q1 q2 q3))])) t
      exact k
    obtain ⟨_, _, ⟨T38, L38, k38, n38⟩, -, X38, ⟨Lc38, hQ38, l38, y38, z38⟩, st38⟩ := Jvm.LawKit.callS X37 hx (y := (⟨"com/example/assentor/assentor/check/OdometerBeforePinLaw", "sign", "(II)I"⟩ : MethodName)) hown (mvT hZ (hw _ (List.mem_of_getElem? (i := 9) rfl))) (mvT hZ (hw _ (List.mem_of_getElem? (i := 10) rfl))) (mvT hZ (hw _ (List.mem_of_getElem? (i := 2) rfl))) (mvT hZ (hw _ (List.mem_of_getElem? (i := 11) rfl))) (by decide) (backOf (W := 0) (rm3 l Z aZ hw [] (v0_10 p0 q1 q2 q3) (v0_40 p0 q1 q2 q3) T34.heap n0 Z34 ) hZ (hw _ (List.mem_of_getElem? (i := 11) rfl)) (hw _ (List.mem_of_getElem? (i := 2) rfl)) (by decide) (by decide)) (g := (mkF m 149 (la0_38 p0 q1 q2 q3 r0_83 r0_96) [(.int (v0_40 p0 q1 q2 q3)), (.int (v0_10 p0 q1 q2 q3))])) rfl (by rw [hml]; rfl) (argsL := [(.int (v0_10 p0 q1 q2 q3)), (.int (v0_40 p0 q1 q2 q3))]) (rest := []) (lenOf pd__II_I rfl) rfl (by show 2 * 0 + _ ≤ _; exact Nat.le_of_eq rfl) (hb hby at_149) (fun _ _ => ⟨rfl, e37, (by decide : 2 + 0 ≤ _), (by decide : 6 + 0 ≤ _)⟩)
    dsimp only [Pt.U, Pt.locs, Pt.cells, Pt.slots] at X38 l38 y38 z38 st38 hQ38
    subst l38 y38 z38
    obtain ⟨rfl, N38q, e38⟩ := hQ38
    have N38 := Fr.app N37 N38q
    refine OEnd.go (g' := (mkF m 152 (la0_38 p0 q1 q2 q3 r0_83 r0_96) [(.int (f3 (v0_10 p0 q1 q2 q3) (v0_40 p0 q1 q2 q3)))])) st38 ?_
    refine OEnd.go (T' := T38) (g' := (mkF m 160 (la0_39 p0 q1 q2 q3 r0_83 r0_96) [(.int (v0_118 p0 q1 q2 q3))])) (fun t k => ?_) ?_
    · show Steps p.tables e below (T38.setTop (mkF m 152 (la0_38 p0 q1 q2 q3 r0_83 r0_96) [(.int (f3 (v0_10 p0 q1 q2 q3) (v0_40 p0 q1 q2 q3)))])) t
      refine XS.goto X38.here hx rfl (pc0 := 152) (pc' := 156) rfl (hb hby at_152) (by decide) (by decide) ?_
      show Steps p.tables e below (T38.setTop (mkF m 156 (la0_38 p0 q1 q2 q3 r0_83 r0_96) [(.int (f3 (v0_10 p0 q1 q2 q3) (v0_40 p0 q1 q2 q3)))])) t
      refine XS.istore X38.here hx rfl (hb hby at_156) rfl (l' := (la0_39 p0 q1 q2 q3 r0_83 r0_96)) rfl ?_
      show Steps p.tables e below (T38.setTop (mkF m 158 (la0_39 p0 q1 q2 q3 r0_83 r0_96) [])) t
      refine XS.iload X38.here hx rfl (hb hby at_158) rfl ?_
      show Steps p.tables e below (T38.setTop (mkF m 160 (la0_39 p0 q1 q2 q3 r0_83 r0_96) [(.int (v0_118 p0 q1 q2 q3))])) t
      exact k
    refine OEnd.go (T' := T38) (g' := (mkF m 180 (la0_39 p0 q1 q2 q3 r0_83 r0_96) [(.int (if (v0_118 p0 q1 q2 q3) = (0 : Int32) then (if (v0_137 p0 q1 q2 q3) = (0 : Int32) then (v0_156 p0 q1 q2 q3) else (v0_137 p0 q1 q2 q3)) else (v0_118 p0 q1 q2 q3)))])) (fun t k => ?_) ?_
    · show Steps p.tables e below (T38.setTop (mkF m 160 (la0_39 p0 q1 q2 q3 r0_83 r0_96) [(.int (v0_118 p0 q1 q2 q3))])) t
      by_cases hc39 : (v0_118 p0 q1 q2 q3) = (0 : Int32)
      · skip
        refine XS.ifYes X38.here hx rfl (pc0 := 160) (pc' := 168) rfl (hb hby at_160) rfl ((if0 _ _).trans (teq (hc39)).1) (by decide) (by decide) ?_
        show Steps p.tables e below (T38.setTop (mkF m 168 (la0_39 p0 q1 q2 q3 r0_83 r0_96) [])) t
        refine SGo.go (T' := T38) (g' := (mkF m 170 (la0_39 p0 q1 q2 q3 r0_83 r0_96) [(.int (v0_137 p0 q1 q2 q3))])) (fun t k => ?_) ?_
        · show Steps p.tables e below (T38.setTop (mkF m 168 (la0_39 p0 q1 q2 q3 r0_83 r0_96) [])) t
          refine XS.iload X38.here hx rfl (hb hby at_168) rfl ?_
          show Steps p.tables e below (T38.setTop (mkF m 170 (la0_39 p0 q1 q2 q3 r0_83 r0_96) [(.int (v0_137 p0 q1 q2 q3))])) t
          exact k
        by_cases hc40 : (v0_137 p0 q1 q2 q3) = (0 : Int32)
        · skip
          refine XS.ifYes X38.here hx rfl (pc0 := 170) (pc' := 178) rfl (hb hby at_170) rfl ((if0 _ _).trans (teq (hc40)).1) (by decide) (by decide) ?_
          show Steps p.tables e below (T38.setTop (mkF m 178 (la0_39 p0 q1 q2 q3 r0_83 r0_96) [])) t
          refine SGo.go (T' := T38) (g' := (mkF m 180 (la0_39 p0 q1 q2 q3 r0_83 r0_96) [(.int (v0_156 p0 q1 q2 q3))])) (fun t k => ?_) ?_
          · show Steps p.tables e below (T38.setTop (mkF m 178 (la0_39 p0 q1 q2 q3 r0_83 r0_96) [])) t
            refine XS.iload X38.here hx rfl (hb hby at_178) rfl ?_
            show Steps p.tables e below (T38.setTop (mkF m 180 (la0_39 p0 q1 q2 q3 r0_83 r0_96) [(.int (v0_156 p0 q1 q2 q3))])) t
            exact k
          exact (own_k (f := fun (z : Int32) => mkF m 180 #[.val (.int p0), .val (.long q1), .second, .val (.long q2), .second, .val (.long q3), .second, .val (.int (3 : Int32)), .val (.int (v0_10 p0 q1 q2 q3)), .val (.int (v0_17 p0 q1 q2 q3)), .val (.int (v0_25 p0 q1 q2 q3)), .val (.int (v0_40 p0 q1 q2 q3)), .val (.int (v0_56 p0 q1 q2 q3)), .val (.int (v0_73 p0 q1 q2 q3)), .val (.ref r0_83), .val (.ref r0_96), .val (.int (v0_118 p0 q1 q2 q3)), .val (.int (v0_137 p0 q1 q2 q3)), .val (.int (v0_156 p0 q1 q2 q3)), .unset, .unset, .unset] [(.int z)]) ((if_pos hc39).trans (if_pos hc40)) k)
        · skip
          refine XS.ifNo X38.here hx rfl (hb hby at_170) rfl ((if0 _ _).trans (feq (hc40)).1) ?_
          show Steps p.tables e below (T38.setTop (mkF m 173 (la0_39 p0 q1 q2 q3 r0_83 r0_96) [])) t
          refine SGo.go (T' := T38) (g' := (mkF m 180 (la0_39 p0 q1 q2 q3 r0_83 r0_96) [(.int (v0_137 p0 q1 q2 q3))])) (fun t k => ?_) ?_
          · show Steps p.tables e below (T38.setTop (mkF m 173 (la0_39 p0 q1 q2 q3 r0_83 r0_96) [])) t
            refine XS.iload X38.here hx rfl (hb hby at_173) rfl ?_
            show Steps p.tables e below (T38.setTop (mkF m 175 (la0_39 p0 q1 q2 q3 r0_83 r0_96) [(.int (v0_137 p0 q1 q2 q3))])) t
            refine XS.goto X38.here hx rfl (pc0 := 175) (pc' := 180) rfl (hb hby at_175) (by decide) (by decide) ?_
            show Steps p.tables e below (T38.setTop (mkF m 180 (la0_39 p0 q1 q2 q3 r0_83 r0_96) [(.int (v0_137 p0 q1 q2 q3))])) t
            exact k
          exact (own_k (f := fun (z : Int32) => mkF m 180 #[.val (.int p0), .val (.long q1), .second, .val (.long q2), .second, .val (.long q3), .second, .val (.int (3 : Int32)), .val (.int (v0_10 p0 q1 q2 q3)), .val (.int (v0_17 p0 q1 q2 q3)), .val (.int (v0_25 p0 q1 q2 q3)), .val (.int (v0_40 p0 q1 q2 q3)), .val (.int (v0_56 p0 q1 q2 q3)), .val (.int (v0_73 p0 q1 q2 q3)), .val (.ref r0_83), .val (.ref r0_96), .val (.int (v0_118 p0 q1 q2 q3)), .val (.int (v0_137 p0 q1 q2 q3)), .val (.int (v0_156 p0 q1 q2 q3)), .unset, .unset, .unset] [(.int z)]) ((if_pos hc39).trans (if_neg hc40)) k)
      · skip
        refine XS.ifNo X38.here hx rfl (hb hby at_160) rfl ((if0 _ _).trans (feq (hc39)).1) ?_
        show Steps p.tables e below (T38.setTop (mkF m 163 (la0_39 p0 q1 q2 q3 r0_83 r0_96) [])) t
        refine SGo.go (T' := T38) (g' := (mkF m 180 (la0_39 p0 q1 q2 q3 r0_83 r0_96) [(.int (v0_118 p0 q1 q2 q3))])) (fun t k => ?_) ?_
        · show Steps p.tables e below (T38.setTop (mkF m 163 (la0_39 p0 q1 q2 q3 r0_83 r0_96) [])) t
          refine XS.iload X38.here hx rfl (hb hby at_163) rfl ?_
          show Steps p.tables e below (T38.setTop (mkF m 165 (la0_39 p0 q1 q2 q3 r0_83 r0_96) [(.int (v0_118 p0 q1 q2 q3))])) t
          refine XS.goto X38.here hx rfl (pc0 := 165) (pc' := 180) rfl (hb hby at_165) (by decide) (by decide) ?_
          show Steps p.tables e below (T38.setTop (mkF m 180 (la0_39 p0 q1 q2 q3 r0_83 r0_96) [(.int (v0_118 p0 q1 q2 q3))])) t
          exact k
        exact (own_k (f := fun (z : Int32) => mkF m 180 #[.val (.int p0), .val (.long q1), .second, .val (.long q2), .second, .val (.long q3), .second, .val (.int (3 : Int32)), .val (.int (v0_10 p0 q1 q2 q3)), .val (.int (v0_17 p0 q1 q2 q3)), .val (.int (v0_25 p0 q1 q2 q3)), .val (.int (v0_40 p0 q1 q2 q3)), .val (.int (v0_56 p0 q1 q2 q3)), .val (.int (v0_73 p0 q1 q2 q3)), .val (.ref r0_83), .val (.ref r0_96), .val (.int (v0_118 p0 q1 q2 q3)), .val (.int (v0_137 p0 q1 q2 q3)), .val (.int (v0_156 p0 q1 q2 q3)), .unset, .unset, .unset] [(.int z)]) (if_neg hc39) k)
    refine OEnd.go (T' := T38) (g' := (mkF m 186 (la0_40 p0 q1 q2 q3 r0_83 r0_96) [(.ref r0_96), (.ref r0_83)])) (fun t k => ?_) ?_
    · show Steps p.tables e below (T38.setTop (mkF m 180 (la0_39 p0 q1 q2 q3 r0_83 r0_96) [(.int (if (v0_118 p0 q1 q2 q3) = (0 : Int32) then (if (v0_137 p0 q1 q2 q3) = (0 : Int32) then (v0_156 p0 q1 q2 q3) else (v0_137 p0 q1 q2 q3)) else (v0_118 p0 q1 q2 q3)))])) t
      refine XS.istore X38.here hx rfl (hb hby at_180) rfl (l' := (la0_40 p0 q1 q2 q3 r0_83 r0_96)) rfl ?_
      show Steps p.tables e below (T38.setTop (mkF m 182 (la0_40 p0 q1 q2 q3 r0_83 r0_96) [])) t
      refine XS.aload X38.here hx rfl (hb hby at_182) rfl rfl ?_
      show Steps p.tables e below (T38.setTop (mkF m 184 (la0_40 p0 q1 q2 q3 r0_83 r0_96) [(.ref r0_83)])) t
      refine XS.aload X38.here hx rfl (hb hby at_184) rfl rfl ?_
      show Steps p.tables e below (T38.setTop (mkF m 186 (la0_40 p0 q1 q2 q3 r0_83 r0_96) [(.ref r0_96), (.ref r0_83)])) t
      exact k
    obtain ⟨_, _, ⟨T41, L41, k41, n41⟩, -, X41, ⟨Lc41, hQ41, l41, y41, z41⟩, st41⟩ := Jvm.LawKit.callS X38 hx (y := (⟨"com/example/assentor/assentor/check/Odometer", "before", "([I[I)Z"⟩ : MethodName)) hown (mvT hZ (hw _ (List.mem_of_getElem? (i := 5) rfl))) (mvT hZ (hw _ (List.mem_of_getElem? (i := 6) rfl))) (mvT hZ (hw _ (List.mem_of_getElem? (i := 7) rfl))) (mvT hZ (hw _ (List.mem_of_getElem? (i := 8) rfl))) (by decide) (backOf (W := 0) (rm2_3 l Z aZ hw [] r0_83 r0_96 (v0_10 p0 q1 q2 q3) (v0_17 p0 q1 q2 q3) (v0_25 p0 q1 q2 q3) (v0_40 p0 q1 q2 q3) (v0_56 p0 q1 q2 q3) (v0_73 p0 q1 q2 q3) T34.heap n0 Z34 fc35 u34_1) hZ (hw _ (List.mem_of_getElem? (i := 8) rfl)) (hw _ (List.mem_of_getElem? (i := 7) rfl)) (by decide) (by decide)) (g := (mkF m 186 (la0_40 p0 q1 q2 q3 r0_83 r0_96) [(.ref r0_96), (.ref r0_83)])) rfl (by rw [hml]; rfl) (argsL := [(.ref r0_83), (.ref r0_96)]) (rest := []) (lenOf pd___I_I_Z rfl) rfl (by show 2 * 0 + _ ≤ _; exact Nat.le_of_eq rfl) (hb hby at_186) (fun _ _ => ⟨rfl, e38, (by decide : 2 + 0 ≤ _), (by decide : 6 + 0 ≤ _)⟩)
    dsimp only [Pt.U, Pt.locs, Pt.cells, Pt.slots] at X41 l41 y41 z41 st41 hQ41
    subst l41 y41 z41
    obtain ⟨rfl, N41q, e41⟩ := hQ41
    have N41 := Fr.app N38 N41q
    refine OEnd.go (g' := (mkF m 189 (la0_40 p0 q1 q2 q3 r0_83 r0_96) [(.int (f2_3 (v0_10 p0 q1 q2 q3) (v0_17 p0 q1 q2 q3) (v0_25 p0 q1 q2 q3) (v0_40 p0 q1 q2 q3) (v0_56 p0 q1 q2 q3) (v0_73 p0 q1 q2 q3)))])) st41 ?_
    refine OEnd.go (T' := T41) (g' := (mkF m 195 (la0_41 p0 q1 q2 q3 r0_83 r0_96) [(.ref r0_83), (.ref r0_96)])) (fun t k => ?_) ?_
    · show Steps p.tables e below (T41.setTop (mkF m 189 (la0_40 p0 q1 q2 q3 r0_83 r0_96) [(.int (f2_3 (v0_10 p0 q1 q2 q3) (v0_17 p0 q1 q2 q3) (v0_25 p0 q1 q2 q3) (v0_40 p0 q1 q2 q3) (v0_56 p0 q1 q2 q3) (v0_73 p0 q1 q2 q3)))])) t
      refine XS.istore X41.here hx rfl (hb hby at_189) rfl (l' := (la0_41 p0 q1 q2 q3 r0_83 r0_96)) rfl ?_
      show Steps p.tables e below (T41.setTop (mkF m 191 (la0_41 p0 q1 q2 q3 r0_83 r0_96) [])) t
      refine XS.aload X41.here hx rfl (hb hby at_191) rfl rfl ?_
      show Steps p.tables e below (T41.setTop (mkF m 193 (la0_41 p0 q1 q2 q3 r0_83 r0_96) [(.ref r0_96)])) t
      refine XS.aload X41.here hx rfl (hb hby at_193) rfl rfl ?_
      show Steps p.tables e below (T41.setTop (mkF m 195 (la0_41 p0 q1 q2 q3 r0_83 r0_96) [(.ref r0_83), (.ref r0_96)])) t
      exact k
    obtain ⟨_, _, ⟨T42, L42, k42, n42⟩, -, X42, ⟨Lc42, hQ42, l42, y42, z42⟩, st42⟩ := Jvm.LawKit.callS X41 hx (y := (⟨"com/example/assentor/assentor/check/Odometer", "before", "([I[I)Z"⟩ : MethodName)) hown (mvT hZ (hw _ (List.mem_of_getElem? (i := 5) rfl))) (mvT hZ (hw _ (List.mem_of_getElem? (i := 6) rfl))) (mvT hZ (hw _ (List.mem_of_getElem? (i := 7) rfl))) (mvT hZ (hw _ (List.mem_of_getElem? (i := 8) rfl))) (by decide) (backOf (W := 0) (rm2_3 l Z aZ hw [] r0_96 r0_83 (v0_40 p0 q1 q2 q3) (v0_56 p0 q1 q2 q3) (v0_73 p0 q1 q2 q3) (v0_10 p0 q1 q2 q3) (v0_17 p0 q1 q2 q3) (v0_25 p0 q1 q2 q3) T34.heap n0 Z34 u34_1 fc35) hZ (hw _ (List.mem_of_getElem? (i := 8) rfl)) (hw _ (List.mem_of_getElem? (i := 7) rfl)) (by decide) (by decide)) (g := (mkF m 195 (la0_41 p0 q1 q2 q3 r0_83 r0_96) [(.ref r0_83), (.ref r0_96)])) rfl (by rw [hml]; rfl) (argsL := [(.ref r0_96), (.ref r0_83)]) (rest := []) (lenOf pd___I_I_Z rfl) rfl (by show 2 * 0 + _ ≤ _; exact Nat.le_of_eq rfl) (hb hby at_195) (fun _ _ => ⟨rfl, e41, (by decide : 2 + 0 ≤ _), (by decide : 6 + 0 ≤ _)⟩)
    dsimp only [Pt.U, Pt.locs, Pt.cells, Pt.slots] at X42 l42 y42 z42 st42 hQ42
    subst l42 y42 z42
    obtain ⟨rfl, N42q, e42⟩ := hQ42
    have N42 := Fr.app N41 N42q
    refine OEnd.go (g' := (mkF m 198 (la0_41 p0 q1 q2 q3 r0_83 r0_96) [(.int (f2_3 (v0_40 p0 q1 q2 q3) (v0_56 p0 q1 q2 q3) (v0_73 p0 q1 q2 q3) (v0_10 p0 q1 q2 q3) (v0_17 p0 q1 q2 q3) (v0_25 p0 q1 q2 q3)))])) st42 ?_
    refine OEnd.go (T' := T42) (g' := (mkF m 204 (la0_42 p0 q1 q2 q3 r0_83 r0_96) [(.int (v0_180x p0 q1 q2 q3)), (.int (v0_189xx p0 q1 q2 q3))])) (fun t k => ?_) ?_
    · show Steps p.tables e below (T42.setTop (mkF m 198 (la0_41 p0 q1 q2 q3 r0_83 r0_96) [(.int (f2_3 (v0_40 p0 q1 q2 q3) (v0_56 p0 q1 q2 q3) (v0_73 p0 q1 q2 q3) (v0_10 p0 q1 q2 q3) (v0_17 p0 q1 q2 q3) (v0_25 p0 q1 q2 q3)))])) t
      refine XS.istore X42.here hx rfl (hb hby at_198) rfl (l' := (la0_42 p0 q1 q2 q3 r0_83 r0_96)) rfl ?_
      show Steps p.tables e below (T42.setTop (mkF m 200 (la0_42 p0 q1 q2 q3 r0_83 r0_96) [])) t
      refine XS.iload X42.here hx rfl (hb hby at_200) rfl ?_
      show Steps p.tables e below (T42.setTop (mkF m 202 (la0_42 p0 q1 q2 q3 r0_83 r0_96) [(.int (v0_189xx p0 q1 q2 q3))])) t
      refine XS.iload X42.here hx rfl (hb hby at_202) rfl ?_
      show Steps p.tables e below (T42.setTop (mkF m 204 (la0_42 p0 q1 q2 q3 r0_83 r0_96) [(.int (v0_180x p0 q1 q2 q3)), (.int (v0_189xx p0 q1 q2 q3))])) t
      exact k
    refine OEnd.go (T' := T42) (g' := (mkF m 212 (la0_42 p0 q1 q2 q3 r0_83 r0_96) [(.int (if (v0_180x p0 q1 q2 q3) < (0 : Int32) then (1 : Int32) else (0 : Int32))), (.int (v0_189xx p0 q1 q2 q3))])) (fun t k => ?_) ?_
    · show Steps p.tables e below (T42.setTop (mkF m 204 (la0_42 p0 q1 q2 q3 r0_83 r0_96) [(.int (v0_180x p0 q1 q2 q3)), (.int (v0_189xx p0 q1 q2 q3))])) t
      by_cases hc43 : (v0_180x p0 q1 q2 q3) < (0 : Int32)
      · skip
        refine XS.ifNo X42.here hx rfl (hb hby at_204) rfl ((if0 _ _).trans (tlt (hc43)).2.1) ?_
        show Steps p.tables e below (T42.setTop (mkF m 207 (la0_42 p0 q1 q2 q3 r0_83 r0_96) [(.int (v0_189xx p0 q1 q2 q3))])) t
        refine SGo.go (T' := T42) (g' := (mkF m 212 (la0_42 p0 q1 q2 q3 r0_83 r0_96) [(.int (1 : Int32)), (.int (v0_189xx p0 q1 q2 q3))])) (fun t k => ?_) ?_
        · show Steps p.tables e below (T42.setTop (mkF m 207 (la0_42 p0 q1 q2 q3 r0_83 r0_96) [(.int (v0_189xx p0 q1 q2 q3))])) t
          refine XS.iconst X42.here hx rfl (hb hby at_207) ?_
          show Steps p.tables e below (T42.setTop (mkF m 208 (la0_42 p0 q1 q2 q3 r0_83 r0_96) [(.int (1 : Int32)), (.int (v0_189xx p0 q1 q2 q3))])) t
          refine XS.goto X42.here hx rfl (pc0 := 208) (pc' := 212) rfl (hb hby at_208) (by decide) (by decide) ?_
          show Steps p.tables e below (T42.setTop (mkF m 212 (la0_42 p0 q1 q2 q3 r0_83 r0_96) [(.int (1 : Int32)), (.int (v0_189xx p0 q1 q2 q3))])) t
          exact k
        exact (own_k (f := fun (z : Int32) => mkF m 212 #[.val (.int p0), .val (.long q1), .second, .val (.long q2), .second, .val (.long q3), .second, .val (.int (3 : Int32)), .val (.int (v0_10 p0 q1 q2 q3)), .val (.int (v0_17 p0 q1 q2 q3)), .val (.int (v0_25 p0 q1 q2 q3)), .val (.int (v0_40 p0 q1 q2 q3)), .val (.int (v0_56 p0 q1 q2 q3)), .val (.int (v0_73 p0 q1 q2 q3)), .val (.ref r0_83), .val (.ref r0_96), .val (.int (v0_118 p0 q1 q2 q3)), .val (.int (v0_137 p0 q1 q2 q3)), .val (.int (v0_156 p0 q1 q2 q3)), .val (.int (v0_180x p0 q1 q2 q3)), .val (.int (v0_189xx p0 q1 q2 q3)), .val (.int (v0_198xx p0 q1 q2 q3))] [(.int z), (.int (v0_189xx p0 q1 q2 q3))]) (if_pos hc43) k)
      · skip
        refine XS.ifYes X42.here hx rfl (pc0 := 204) (pc' := 211) rfl (hb hby at_204) rfl ((if0 _ _).trans (flt (hc43)).2.1) (by decide) (by decide) ?_
        show Steps p.tables e below (T42.setTop (mkF m 211 (la0_42 p0 q1 q2 q3 r0_83 r0_96) [(.int (v0_189xx p0 q1 q2 q3))])) t
        refine SGo.go (T' := T42) (g' := (mkF m 212 (la0_42 p0 q1 q2 q3 r0_83 r0_96) [(.int (0 : Int32)), (.int (v0_189xx p0 q1 q2 q3))])) (fun t k => ?_) ?_
        · show Steps p.tables e below (T42.setTop (mkF m 211 (la0_42 p0 q1 q2 q3 r0_83 r0_96) [(.int (v0_189xx p0 q1 q2 q3))])) t
          refine XS.iconst X42.here hx rfl (hb hby at_211) ?_
          show Steps p.tables e below (T42.setTop (mkF m 212 (la0_42 p0 q1 q2 q3 r0_83 r0_96) [(.int (0 : Int32)), (.int (v0_189xx p0 q1 q2 q3))])) t
          exact k
        exact (own_k (f := fun (z : Int32) => mkF m 212 #[.val (.int p0), .val (.long q1), .second, .val (.long q2), .second, .val (.long q3), .second, .val (.int (3 : Int32)), .val (.int (v0_10 p0 q1 q2 q3)), .val (.int (v0_17 p0 q1 q2 q3)), .val (.int (v0_25 p0 q1 q2 q3)), .val (.int (v0_40 p0 q1 q2 q3)), .val (.int (v0_56 p0 q1 q2 q3)), .val (.int (v0_73 p0 q1 q2 q3)), .val (.ref r0_83), .val (.ref r0_96), .val (.int (v0_118 p0 q1 q2 q3)), .val (.int (v0_137 p0 q1 q2 q3)), .val (.int (v0_156 p0 q1 q2 q3)), .val (.int (v0_180x p0 q1 q2 q3)), .val (.int (v0_189xx p0 q1 q2 q3)), .val (.int (v0_198xx p0 q1 q2 q3))] [(.int z), (.int (v0_189xx p0 q1 q2 q3))]) (if_neg hc43) k)
    refine OEnd.go (T' := T42) (g' := (mkF m 235 (la0_42 p0 q1 q2 q3 r0_83 r0_96) [(.int (if (v0_189xx p0 q1 q2 q3) = (v0_212_s0xx p0 q1 q2 q3) then (if (v0_198xx p0 q1 q2 q3) = (v0_227_s0xx p0 q1 q2 q3) then (1 : Int32) else (0 : Int32)) else (0 : Int32)))])) (fun t k => ?_) ?_
    · show Steps p.tables e below (T42.setTop (mkF m 212 (la0_42 p0 q1 q2 q3 r0_83 r0_96) [(.int (v0_212_s0xx p0 q1 q2 q3)), (.int (v0_189xx p0 q1 q2 q3))])) t
      by_cases hc44 : (v0_189xx p0 q1 q2 q3) = (v0_212_s0xx p0 q1 q2 q3)
      · skip
        refine XS.icmpNo X42.here hx rfl (hb hby at_212) rfl (teq (hc44)).2 ?_
        show Steps p.tables e below (T42.setTop (mkF m 215 (la0_42 p0 q1 q2 q3 r0_83 r0_96) [])) t
        refine SGo.go (T' := T42) (g' := (mkF m 219 (la0_42 p0 q1 q2 q3 r0_83 r0_96) [(.int (v0_180x p0 q1 q2 q3)), (.int (v0_198xx p0 q1 q2 q3))])) (fun t k => ?_) ?_
        · show Steps p.tables e below (T42.setTop (mkF m 215 (la0_42 p0 q1 q2 q3 r0_83 r0_96) [])) t
          refine XS.iload X42.here hx rfl (hb hby at_215) rfl ?_
          show Steps p.tables e below (T42.setTop (mkF m 217 (la0_42 p0 q1 q2 q3 r0_83 r0_96) [(.int (v0_198xx p0 q1 q2 q3))])) t
          refine XS.iload X42.here hx rfl (hb hby at_217) rfl ?_
          show Steps p.tables e below (T42.setTop (mkF m 219 (la0_42 p0 q1 q2 q3 r0_83 r0_96) [(.int (v0_180x p0 q1 q2 q3)), (.int (v0_198xx p0 q1 q2 q3))])) t
          exact k
        refine SGo.go (T' := T42) (g' := (mkF m 227 (la0_42 p0 q1 q2 q3 r0_83 r0_96) [(.int (if (0 : Int32) < (v0_180x p0 q1 q2 q3) then (1 : Int32) else (0 : Int32))), (.int (v0_198xx p0 q1 q2 q3))])) (fun t k => ?_) ?_
        · show Steps p.tables e below (T42.setTop (mkF m 219 (la0_42 p0 q1 q2 q3 r0_83 r0_96) [(.int (v0_180x p0 q1 q2 q3)), (.int (v0_198xx p0 q1 q2 q3))])) t
          by_cases hc45 : (0 : Int32) < (v0_180x p0 q1 q2 q3)
          · skip
            refine XS.ifNo X42.here hx rfl (hb hby at_219) rfl ((if0 _ _).trans (tlt (hc45)).2.2.2) ?_
            show Steps p.tables e below (T42.setTop (mkF m 222 (la0_42 p0 q1 q2 q3 r0_83 r0_96) [(.int (v0_198xx p0 q1 q2 q3))])) t
            refine SGo.go (T' := T42) (g' := (mkF m 227 (la0_42 p0 q1 q2 q3 r0_83 r0_96) [(.int (1 : Int32)), (.int (v0_198xx p0 q1 q2 q3))])) (fun t k => ?_) ?_
            · show Steps p.tables e below (T42.setTop (mkF m 222 (la0_42 p0 q1 q2 q3 r0_83 r0_96) [(.int (v0_198xx p0 q1 q2 q3))])) t
              refine XS.iconst X42.here hx rfl (hb hby at_222) ?_
              show Steps p.tables e below (T42.setTop (mkF m 223 (la0_42 p0 q1 q2 q3 r0_83 r0_96) [(.int (1 : Int32)), (.int (v0_198xx p0 q1 q2 q3))])) t
              refine XS.goto X42.here hx rfl (pc0 := 223) (pc' := 227) rfl (hb hby at_223) (by decide) (by decide) ?_
              show Steps p.tables e below (T42.setTop (mkF m 227 (la0_42 p0 q1 q2 q3 r0_83 r0_96) [(.int (1 : Int32)), (.int (v0_198xx p0 q1 q2 q3))])) t
              exact k
            exact (own_k (f := fun (z : Int32) => mkF m 227 #[.val (.int p0), .val (.long q1), .second, .val (.long q2), .second, .val (.long q3), .second, .val (.int (3 : Int32)), .val (.int (v0_10 p0 q1 q2 q3)), .val (.int (v0_17 p0 q1 q2 q3)), .val (.int (v0_25 p0 q1 q2 q3)), .val (.int (v0_40 p0 q1 q2 q3)), .val (.int (v0_56 p0 q1 q2 q3)), .val (.int (v0_73 p0 q1 q2 q3)), .val (.ref r0_83), .val (.ref r0_96), .val (.int (v0_118 p0 q1 q2 q3)), .val (.int (v0_137 p0 q1 q2 q3)), .val (.int (v0_156 p0 q1 q2 q3)), .val (.int (v0_180x p0 q1 q2 q3)), .val (.int (v0_189xx p0 q1 q2 q3)), .val (.int (v0_198xx p0 q1 q2 q3))] [(.int z), (.int (v0_198xx p0 q1 q2 q3))]) (if_pos hc45) k)
          · skip
            refine XS.ifYes X42.here hx rfl (pc0 := 219) (pc' := 226) rfl (hb hby at_219) rfl ((if0 _ _).trans (flt (hc45)).2.2.2) (by decide) (by decide) ?_
            show Steps p.tables e below (T42.setTop (mkF m 226 (la0_42 p0 q1 q2 q3 r0_83 r0_96) [(.int (v0_198xx p0 q1 q2 q3))])) t
            refine SGo.go (T' := T42) (g' := (mkF m 227 (la0_42 p0 q1 q2 q3 r0_83 r0_96) [(.int (0 : Int32)), (.int (v0_198xx p0 q1 q2 q3))])) (fun t k => ?_) ?_
            · show Steps p.tables e below (T42.setTop (mkF m 226 (la0_42 p0 q1 q2 q3 r0_83 r0_96) [(.int (v0_198xx p0 q1 q2 q3))])) t
              refine XS.iconst X42.here hx rfl (hb hby at_226) ?_
              show Steps p.tables e below (T42.setTop (mkF m 227 (la0_42 p0 q1 q2 q3 r0_83 r0_96) [(.int (0 : Int32)), (.int (v0_198xx p0 q1 q2 q3))])) t
              exact k
            exact (own_k (f := fun (z : Int32) => mkF m 227 #[.val (.int p0), .val (.long q1), .second, .val (.long q2), .second, .val (.long q3), .second, .val (.int (3 : Int32)), .val (.int (v0_10 p0 q1 q2 q3)), .val (.int (v0_17 p0 q1 q2 q3)), .val (.int (v0_25 p0 q1 q2 q3)), .val (.int (v0_40 p0 q1 q2 q3)), .val (.int (v0_56 p0 q1 q2 q3)), .val (.int (v0_73 p0 q1 q2 q3)), .val (.ref r0_83), .val (.ref r0_96), .val (.int (v0_118 p0 q1 q2 q3)), .val (.int (v0_137 p0 q1 q2 q3)), .val (.int (v0_156 p0 q1 q2 q3)), .val (.int (v0_180x p0 q1 q2 q3)), .val (.int (v0_189xx p0 q1 q2 q3)), .val (.int (v0_198xx p0 q1 q2 q3))] [(.int z), (.int (v0_198xx p0 q1 q2 q3))]) (if_neg hc45) k)
        by_cases hc46 : (v0_198xx p0 q1 q2 q3) = (v0_227_s0xx p0 q1 q2 q3)
        · skip
          refine XS.icmpNo X42.here hx rfl (hb hby at_227) rfl (teq (hc46)).2 ?_
          show Steps p.tables e below (T42.setTop (mkF m 230 (la0_42 p0 q1 q2 q3 r0_83 r0_96) [])) t
          refine SGo.go (T' := T42) (g' := (mkF m 235 (la0_42 p0 q1 q2 q3 r0_83 r0_96) [(.int (1 : Int32))])) (fun t k => ?_) ?_
          · show Steps p.tables e below (T42.setTop (mkF m 230 (la0_42 p0 q1 q2 q3 r0_83 r0_96) [])) t
            refine XS.iconst X42.here hx rfl (hb hby at_230) ?_
            show Steps p.tables e below (T42.setTop (mkF m 231 (la0_42 p0 q1 q2 q3 r0_83 r0_96) [(.int (1 : Int32))])) t
            refine XS.goto X42.here hx rfl (pc0 := 231) (pc' := 235) rfl (hb hby at_231) (by decide) (by decide) ?_
            show Steps p.tables e below (T42.setTop (mkF m 235 (la0_42 p0 q1 q2 q3 r0_83 r0_96) [(.int (1 : Int32))])) t
            exact k
          exact (own_k (f := fun (z : Int32) => mkF m 235 #[.val (.int p0), .val (.long q1), .second, .val (.long q2), .second, .val (.long q3), .second, .val (.int (3 : Int32)), .val (.int (v0_10 p0 q1 q2 q3)), .val (.int (v0_17 p0 q1 q2 q3)), .val (.int (v0_25 p0 q1 q2 q3)), .val (.int (v0_40 p0 q1 q2 q3)), .val (.int (v0_56 p0 q1 q2 q3)), .val (.int (v0_73 p0 q1 q2 q3)), .val (.ref r0_83), .val (.ref r0_96), .val (.int (v0_118 p0 q1 q2 q3)), .val (.int (v0_137 p0 q1 q2 q3)), .val (.int (v0_156 p0 q1 q2 q3)), .val (.int (v0_180x p0 q1 q2 q3)), .val (.int (v0_189xx p0 q1 q2 q3)), .val (.int (v0_198xx p0 q1 q2 q3))] [(.int z)]) ((if_pos hc44).trans (if_pos hc46)) k)
        · skip
          refine XS.icmpYes X42.here hx rfl (pc0 := 227) (pc' := 234) rfl (hb hby at_227) rfl (feq (hc46)).2 (by decide) (by decide) ?_
          show Steps p.tables e below (T42.setTop (mkF m 234 (la0_42 p0 q1 q2 q3 r0_83 r0_96) [])) t
          refine SGo.go (T' := T42) (g' := (mkF m 235 (la0_42 p0 q1 q2 q3 r0_83 r0_96) [(.int (0 : Int32))])) (fun t k => ?_) ?_
          · show Steps p.tables e below (T42.setTop (mkF m 234 (la0_42 p0 q1 q2 q3 r0_83 r0_96) [])) t
            refine XS.iconst X42.here hx rfl (hb hby at_234) ?_
            show Steps p.tables e below (T42.setTop (mkF m 235 (la0_42 p0 q1 q2 q3 r0_83 r0_96) [(.int (0 : Int32))])) t
            exact k
          exact (own_k (f := fun (z : Int32) => mkF m 235 #[.val (.int p0), .val (.long q1), .second, .val (.long q2), .second, .val (.long q3), .second, .val (.int (3 : Int32)), .val (.int (v0_10 p0 q1 q2 q3)), .val (.int (v0_17 p0 q1 q2 q3)), .val (.int (v0_25 p0 q1 q2 q3)), .val (.int (v0_40 p0 q1 q2 q3)), .val (.int (v0_56 p0 q1 q2 q3)), .val (.int (v0_73 p0 q1 q2 q3)), .val (.ref r0_83), .val (.ref r0_96), .val (.int (v0_118 p0 q1 q2 q3)), .val (.int (v0_137 p0 q1 q2 q3)), .val (.int (v0_156 p0 q1 q2 q3)), .val (.int (v0_180x p0 q1 q2 q3)), .val (.int (v0_189xx p0 q1 q2 q3)), .val (.int (v0_198xx p0 q1 q2 q3))] [(.int z)]) ((if_pos hc44).trans (if_neg hc46)) k)
      · skip
        refine XS.icmpYes X42.here hx rfl (pc0 := 212) (pc' := 234) rfl (hb hby at_212) rfl (feq (hc44)).2 (by decide) (by decide) ?_
        show Steps p.tables e below (T42.setTop (mkF m 234 (la0_42 p0 q1 q2 q3 r0_83 r0_96) [])) t
        refine SGo.go (T' := T42) (g' := (mkF m 235 (la0_42 p0 q1 q2 q3 r0_83 r0_96) [(.int (0 : Int32))])) (fun t k => ?_) ?_
        · show Steps p.tables e below (T42.setTop (mkF m 234 (la0_42 p0 q1 q2 q3 r0_83 r0_96) [])) t
          refine XS.iconst X42.here hx rfl (hb hby at_234) ?_
          show Steps p.tables e below (T42.setTop (mkF m 235 (la0_42 p0 q1 q2 q3 r0_83 r0_96) [(.int (0 : Int32))])) t
          exact k
        exact (own_k (f := fun (z : Int32) => mkF m 235 #[.val (.int p0), .val (.long q1), .second, .val (.long q2), .second, .val (.long q3), .second, .val (.int (3 : Int32)), .val (.int (v0_10 p0 q1 q2 q3)), .val (.int (v0_17 p0 q1 q2 q3)), .val (.int (v0_25 p0 q1 q2 q3)), .val (.int (v0_40 p0 q1 q2 q3)), .val (.int (v0_56 p0 q1 q2 q3)), .val (.int (v0_73 p0 q1 q2 q3)), .val (.ref r0_83), .val (.ref r0_96), .val (.int (v0_118 p0 q1 q2 q3)), .val (.int (v0_137 p0 q1 q2 q3)), .val (.int (v0_156 p0 q1 q2 q3)), .val (.int (v0_180x p0 q1 q2 q3)), .val (.int (v0_189xx p0 q1 q2 q3)), .val (.int (v0_198xx p0 q1 q2 q3))] [(.int z)]) (if_neg hc44) k)
    exact OEnd.nar X42 hx (t := .boolean) Bd.returns (by simp) hlk (hb hby at_235) ⟨(congrArg (fun z => some (Value.int (nar .boolean z))) (own_plain_3 p0 q1 q2 q3)), N42⟩ (by decide) (by decide)
set_option maxRecDepth 65536 in
set_option maxHeartbeats 40000000 in
theorem comes_1 {Post : Tables → Env → Array Value → State → Outcome → State → Prop} (hpost : ∀ tb e args s v u, (limb_1_1.after args s (.returned v) u = true ∧ limb_1_2.after args s (.returned v) u = true ∧ True) → FrameEnd s (.returned v) u (Jvm.fieldLocs frame_1_writes args s ++ Jvm.arrayLocs frame_1_arrays args s ++ Jvm.staticLocs frame_1_statics s) 16 128 → Post tb e args s (.returned v) u) :
    ArmFor flags0 classFile x code maxLocals ret World_1 tables_1 room_1 Calls_1 rest_1 Pre_1 Post := by
  intro l hfl _ _ p e ha hc hk s m args below hf hA hF happ hP
  obtain ⟨hcalls, hrest, hpre⟩ := hP
  obtain ⟨-, -, -, hnamed, -, -, -, hat⟩ := (Spec.applies_iff hf).mp happ
  obtain ⟨hg, hn⟩ := and_e (Cond.before_iff.mp (show (Jvm.Cond.and given_1 narrow_1).before args s = true from hpre))
  obtain ⟨c1, c2⟩ := and_e hg
  obtain ⟨c3, c4⟩ := and_e c2
  obtain ⟨c5, c6⟩ := and_e c4
  obtain ⟨c7, c8⟩ := and_e c6
  obtain ⟨w0, w1, w2, w3, rfl⟩ : ∃ w0 w1 w2 w3 : Value, args = #[w0, w1, w2, w3] := by
    have hs : args.size = 4 := by simpa [Cond.value, given_1] using c1
    obtain ⟨L⟩ := args
    match L, hs with
    | [w0, w1, w2, w3], _ => exact ⟨w0, w1, w2, w3, rfl⟩
  have hw := fun d (hd : d ∈ tables_1) => atoms_spec (ws := Jvm.Cond.code x code maxLocals ret :: tables_1) hat d (List.mem_cons_of_mem _ hd)
  obtain ⟨i0, ei0⟩ := is_v c3
  obtain rfl : w0 = (.int i0) := Option.some.inj ei0
  obtain ⟨i1, ei1⟩ := isL_v c5
  obtain rfl : w1 = (.long i1) := Option.some.inj ei1
  obtain ⟨i2, ei2⟩ := isL_v c7
  obtain rfl : w2 = (.long i2) := Option.some.inj ei2
  obtain ⟨i3, ei3⟩ := isL_v c8
  obtain rfl : w3 = (.long i3) := Option.some.inj ei3
  obtain ⟨n, o, h1, h2, h3, _, L, rfl, ⟨rfl, N⟩, hq⟩ := rm0 l s _ hw tables_1 i0 i1 i2 i3 s.heap s.heap.size (Nat.le_refl _)  p e ha hc hk s m _ below hf ((Spec.applies_iff_loose hf).mp happ).1 ⟨rfl, State.Warmed39.refl s, rfl⟩ trivial
  refine ⟨n, _, h1, h2, h3, hpost _ _ _ _ _ _ ⟨Cond.after_iff.mpr rfl, Cond.after_iff.mpr (eq_i res_at (Term.int_eval (1)) rfl), trivial⟩ ⟨hq.1, hq.2.1, (hq.2.2.sift fun y hy => Or.inr (N y hy)).mono (by decide) (by decide)⟩⟩
theorem main_1_1 : Claimed_1_1 := comes_1 fun _ _ _ _ _ _ h hF => ⟨h.1, hF⟩
theorem main_1_2 : Claimed_1_2 := comes_1 fun _ _ _ _ _ _ h hF => ⟨h.2.1, hF⟩
end Jvm.Pilot.@@N@@
namespace Jvm.Pilot.@@N@@
open Jvm Jvm.ClassFile Sem Op Lib Jvm.Free Jvm.Stand Jvm.Pilot.@@N@@.Jvm.D
/-! MADE BY PROGRAM (witnessworld.py) out of the Statement's table words and the real class files: 9 classes; the members and pool entries that the words name. The judged class is class 1, her method 3. -/
namespace start1
open Jvm.ClassFile
def u (s : String) : CpInfo := .utf8 (stringToUtf16 s)
/-- a pool by its gaps: so many unusable entries, then the entry; so many at the end -/
def gap : Nat → List CpInfo → List CpInfo
  | 0, r => r
  | n + 1, r => .unusable :: gap n r
def poolList (es : List (Nat × CpInfo)) (last : Nat) : List CpInfo := es.foldr (fun e r => gap e.1 (e.2 :: r)) (gap last [])
def pool (es : List (Nat × CpInfo)) (last : Nat) : Array CpInfo := ⟨poolList es last⟩
def fileOf (pool : Array CpInfo) (this : Nat) (attrs : Array Attribute := #[]) (ms : Array MethodInfo := #[]) (fl : Nat := 33) (sup : Nat := 0) (ifs : Array Nat := #[]) (fds : Array FieldInfo := #[]) : ClassFile where
  minorVersion := 0
  majorVersion := 65
  constantPool := pool
  accessFlags := fl
  thisClass := this
  superClass := sup
  interfaces := ifs
  fields := fds
  methods := ms
  attributes := attrs
def plain (name : String) (sup : Option ClassId) : Class where
  name := name
  kind := .ordinary
  loader := none
  accessFlags := 33
  super := sup
  interfaces := #[]
  cf := none
  fields := #[]
  methods := #[]
  instanceTypes := #[]
  staticTypes := #[]
  resolved := #[]
  callSites := []
  init := .initialized
  statics := none
  mirror := none

def pool0 : Array CpInfo := pool [(5, u "<init>"), (0, u "()V"), (1, .class_ 10), (1, u "java/lang/Object")] 113

def k0m0 : Method := { name := "<init>", desc := "()V", sig := { parameters := [], returnType := none }, accessFlags := 1, code := none }
/-- java/lang/Object -/
def k0 : Class := { plain "java/lang/Object" none with
  accessFlags := 33
  interfaces := #[]
  cf := some (fileOf pool0 8 #[] #[{ accessFlags := 1, nameIndex := 5, descriptorIndex := 6, attributes := #[] }] 33 0 #[] #[])
  fields := #[]
  methods := #[k0m0]
  instanceTypes := #[]
  staticTypes := #[]
  resolved := Array.replicate 124 none
  statics := none }

def pool1 : Array CpInfo := pool [(2, .class_ 4), (1, u "java/lang/Object"), (0, u "<init>"), (0, u "()V"), (0, .methodref 8 9), (0, .class_ 10), (0, .nameAndType 11 12), (0, u "com/example/assentor/assentor/check/OdometerBeforePinLaw"), (0, u "mk"), (0, u "(IIII)[I"), (0, .methodref 8 14), (0, .nameAndType 15 16), (0, u "sign"), (0, u "(II)I"), (0, .methodref 18 19), (0, .class_ 20), (0, .nameAndType 21 22), (0, u "com/example/assentor/assentor/check/Odometer"), (0, u "before"), (0, u "([I[I)Z"), (5, u "law"), (0, u "(IJJJ)Z")] 2

def k1m0 : Method := { name := "<init>", desc := "()V", sig := { parameters := [], returnType := none }, accessFlags := 2, code := none }
def k1c1 : Code := { maxStack := 2, maxLocals := 2, code := method_2_code, exceptionTable := #[], attributes := #[] }
def k1m1 : Method := { name := "sign", desc := "(II)I", sig := { parameters := [.int, .int], returnType := some .int }, accessFlags := 10, code := some k1c1 }
def k1c2 : Code := { maxStack := 3, maxLocals := 5, code := method_3_code, exceptionTable := #[], attributes := #[] }
def k1m2 : Method := { name := "mk", desc := "(IIII)[I", sig := { parameters := [.int, .int, .int, .int], returnType := some (.array .int) }, accessFlags := 10, code := some k1c2 }
def k1c3 : Code := { maxStack := 4, maxLocals := 22, code := code, exceptionTable := #[], attributes := #[] }
def k1m3 : Method := { name := "law", desc := "(IJJJ)Z", sig := { parameters := [.int, .long, .long, .long], returnType := some .boolean }, accessFlags := 9, code := some k1c3 }
/-- com/example/assentor/assentor/check/OdometerBeforePinLaw -/
def k1 : Class := { plain "com/example/assentor/assentor/check/OdometerBeforePinLaw" (some 0) with
  accessFlags := 49
  interfaces := #[]
  cf := some (fileOf pool1 8 #[] #[{ accessFlags := 2, nameIndex := 5, descriptorIndex := 6, attributes := #[] }, { accessFlags := 10, nameIndex := 15, descriptorIndex := 16, attributes := #[] }, { accessFlags := 10, nameIndex := 11, descriptorIndex := 12, attributes := #[] }, { accessFlags := 9, nameIndex := 28, descriptorIndex := 29, attributes := #[] }] 49 2 #[] #[])
  fields := #[]
  methods := #[k1m0, k1m1, k1m2, k1m3]
  instanceTypes := #[]
  staticTypes := #[]
  resolved := Array.replicate 32 none
  statics := none }

def pool2 : Array CpInfo := pool [(2, .class_ 4), (1, u "java/lang/Object"), (0, u "<init>"), (0, u "()V"), (0, .class_ 8), (0, u "com/example/assentor/assentor/check/Odometer"), (3, u "([I[I)Z"), (1, u "before")] 2

def k2m0 : Method := { name := "<init>", desc := "()V", sig := { parameters := [], returnType := none }, accessFlags := 2, code := none }
def k2c1 : Code := { maxStack := 3, maxLocals := 3, code := prog_15_method_3_code, exceptionTable := #[], attributes := #[] }
def k2m1 : Method := { name := "before", desc := "([I[I)Z", sig := { parameters := [(.array .int), (.array .int)], returnType := some .boolean }, accessFlags := 8, code := some k2c1 }
/-- com/example/assentor/assentor/check/Odometer -/
def k2 : Class := { plain "com/example/assentor/assentor/check/Odometer" (some 0) with
  accessFlags := 48
  interfaces := #[]
  cf := some (fileOf pool2 7 #[] #[{ accessFlags := 2, nameIndex := 5, descriptorIndex := 6, attributes := #[] }, { accessFlags := 8, nameIndex := 14, descriptorIndex := 12, attributes := #[] }] 48 2 #[] #[])
  fields := #[]
  methods := #[k2m0, k2m1]
  instanceTypes := #[]
  staticTypes := #[]
  resolved := Array.replicate 17 none
  statics := none }

def pool3 : Array CpInfo := pool [(1, u "java/lang/Cloneable"), (0, .class_ 1), (0, u "java/lang/Object"), (0, .class_ 3)] 3

/-- java/lang/Cloneable -/
def k3 : Class := { plain "java/lang/Cloneable" (some 0) with
  accessFlags := 1537
  interfaces := #[]
  cf := some (fileOf pool3 2 #[] #[] 1537 4 #[] #[])
  fields := #[]
  methods := #[]
  instanceTypes := #[]
  staticTypes := #[]
  resolved := Array.replicate 8 none
  statics := none }

def pool4 : Array CpInfo := pool [(1, u "java/io/Serializable"), (0, .class_ 1), (0, u "java/lang/Object"), (0, .class_ 3)] 3

/-- java/io/Serializable -/
def k4 : Class := { plain "java/io/Serializable" (some 0) with
  accessFlags := 1537
  interfaces := #[]
  cf := some (fileOf pool4 2 #[] #[] 1537 4 #[] #[])
  fields := #[]
  methods := #[]
  instanceTypes := #[]
  staticTypes := #[]
  resolved := Array.replicate 8 none
  statics := none }

/-- the primitive byte -/
def k5 : Class := { plain "byte" none with kind := .primitive 'B', accessFlags := 0x411 }
/-- [B -/
def k6 : Class := { plain "[B" (some 0) with kind := .array 5 .byte, interfaces := #[3, 4], accessFlags := 1041 }

/-- the primitive int -/
def k7 : Class := { plain "int" none with kind := .primitive 'I', accessFlags := 0x411 }
/-- [I -/
def k8 : Class := { plain "[I" (some 0) with kind := .array 7 .int, interfaces := #[3, 4], accessFlags := 1041 }

def heap : Heap := #[]
def classes : Array Class := #[k0, k1, k2, k3, k4, k5, k6, k7, k8]
def interned : List (Array UInt16 × Addr) := []
def slotsUsed : Nat := 0
def theMethod : MethodId := ⟨1, 3⟩
def args0 : Array Value := #[.int 3, .long 5, .long 7, .long 9]
def aboutOver (below : List Frame) : State where
  vm := { classes := classes, interned := interned.toArray }
  heap := heap
  slotsUsed := slotsUsed
  threads := #[{ frames := .invoking theMethod args0 :: below }]
def below0 : List Frame := [.native { method := ⟨0, 0⟩, args := #[] }]
def about1 : State := aboutOver below0
def p0 : Program := .bare "" "" ""
def e0 : Env := launch0.env 0 0 0
theorem w_frames : about1.frames = Frame.invoking theMethod args0 :: below0 := rfl
set_option maxRecDepth 65536 in
theorem w_args : argsFit about1.vm theMethod args0 = true := by decide +kernel
set_option maxRecDepth 65536 in
theorem w_heap : heapFits about1 = true := by decide +kernel
set_option maxRecDepth 65536 in
theorem w_runnable : about1.curStatus? = some .runnable := by decide +kernel
set_option maxRecDepth 65536 in
theorem w_alone : about1.alone = true := by decide +kernel
set_option maxRecDepth 65536 in
theorem w_named : about1.methodNamed? x = some theMethod := by decide +kernel
set_option maxRecDepth 65536 in
theorem w_hears : about1.hears theMethod below0 = true := by decide +kernel
set_option maxRecDepth 65536 in
theorem w_ripe : about1.ripe theMethod args0 below0 = true := by decide +kernel
theorem w_running : about1.status = .running := rfl
set_option maxRecDepth 65536 in
theorem w_room : about1.hasRoom e0.platform room_1 = true :=
  launch0.hasRoom_least _ room_1 (by decide +kernel) (by decide +kernel) (by decide +kernel) (by decide +kernel) (by decide +kernel) (by decide +kernel)
theorem allAtoms_all (ts : List Jvm.Cond) (a : Array Jvm.Value) (st : Jvm.State) : (allAtoms ts).before a st = ts.all (fun c => c.before a st) := by
  induction ts with
  | nil => rfl
  | cons c t ih =>
    show (Jvm.Cond.and c (allAtoms t)).before a st = _
    rw [Jvm.Cond.before_and, ih, List.all_cons]
def words1 : List Jvm.Cond := Jvm.Cond.code x code maxLocals ret :: tables_1
/-- a 'code' word, met by the world's own term for the bytes: nothing is compared byte by byte -/
theorem code_word {y : MethodName} {bytes : ByteArray} {mx : Nat} {rt : Option FieldType} {a : Array Value} {s : State} {m : MethodId} {meth : Method} {c : Code} (h1 : s.methodNamed? y = some m) (h2 : s.vm.method? m = some meth) (h3 : meth.code = some c) (h4 : c.code = bytes)
    (h5 : (c.maxLocals == mx && c.exceptionTable.isEmpty && decide (c.maxStack ≤ mostOperands) && decide (meth.sig.returnType = rt) && !meth.locks && decide (parseMethodDescriptor y.desc = some meth.sig)) = true) : (Jvm.Cond.code y bytes mx rt).before a s = true := by
  simp only [Bool.and_eq_true, beq_iff_eq, Bool.not_eq_true', decide_eq_true_eq] at h5
  obtain ⟨⟨⟨⟨⟨g1, g2⟩, g3⟩, g4⟩, g5⟩, g6⟩ := h5
  simp [Cond.before, Cond.holds, Cond.value, h1, h2, h3, h4, g1, g2, g3, g4, g5, g6]
def isCode : Jvm.Cond → Bool
  | .code _ _ _ _ => true
  | _ => false
theorem all_split {L : List Jvm.Cond} {P : Jvm.Cond → Bool} (h1 : L.all (fun c => isCode c || P c) = true) (h2 : ∀ c ∈ L.filter isCode, P c = true) : L.all P = true := by
  refine List.all_eq_true.mpr fun c hc => ?_
  have h := List.all_eq_true.mp h1 c hc
  rcases Bool.eq_false_or_eq_true (isCode c) with hi | hi
  · exact h2 c (List.mem_filter.mpr ⟨hc, hi⟩)
  · simpa [hi] using h
set_option maxRecDepth 65536 in
theorem w_c0 : (Jvm.Cond.code x code maxLocals ret).before args0 about1 = true := code_word (m := ⟨1, 3⟩) (meth := k1m3) (c := k1c3) (by decide +kernel) rfl rfl rfl (by decide +kernel)
set_option maxRecDepth 65536 in
theorem w_c1 : (Jvm.Cond.code ({ cls := "com/example/assentor/assentor/check/OdometerBeforePinLaw", name := "mk", desc := "(IIII)[I" } : Jvm.MethodName) method_3_code (5 : Nat) (Option.some (Jvm.ClassFile.FieldType.array Jvm.ClassFile.FieldType.int))).before args0 about1 = true := code_word (m := ⟨1, 2⟩) (meth := k1m2) (c := k1c2) (by decide +kernel) rfl rfl rfl (by decide +kernel)
set_option maxRecDepth 65536 in
theorem w_c2 : (Jvm.Cond.code ({ cls := "com/example/assentor/assentor/check/Odometer", name := "before", desc := "([I[I)Z" } : Jvm.MethodName) prog_15_method_3_code (3 : Nat) (Option.some Jvm.ClassFile.FieldType.boolean)).before args0 about1 = true := code_word (m := ⟨2, 1⟩) (meth := k2m1) (c := k2c1) (by decide +kernel) rfl rfl rfl (by decide +kernel)
set_option maxRecDepth 65536 in
theorem w_c3 : (Jvm.Cond.code ({ cls := "com/example/assentor/assentor/check/OdometerBeforePinLaw", name := "sign", desc := "(II)I" } : Jvm.MethodName) method_2_code (2 : Nat) (Option.some Jvm.ClassFile.FieldType.int)).before args0 about1 = true := code_word (m := ⟨1, 1⟩) (meth := k1m1) (c := k1c1) (by decide +kernel) rfl rfl rfl (by decide +kernel)
def codes1 : List Jvm.Cond := [Jvm.Cond.code x code maxLocals ret, Jvm.Cond.code ({ cls := "com/example/assentor/assentor/check/OdometerBeforePinLaw", name := "mk", desc := "(IIII)[I" } : Jvm.MethodName) method_3_code (5 : Nat) (Option.some (Jvm.ClassFile.FieldType.array Jvm.ClassFile.FieldType.int)), Jvm.Cond.code ({ cls := "com/example/assentor/assentor/check/Odometer", name := "before", desc := "([I[I)Z" } : Jvm.MethodName) prog_15_method_3_code (3 : Nat) (Option.some Jvm.ClassFile.FieldType.boolean), Jvm.Cond.code ({ cls := "com/example/assentor/assentor/check/OdometerBeforePinLaw", name := "sign", desc := "(II)I" } : Jvm.MethodName) method_2_code (2 : Nat) (Option.some Jvm.ClassFile.FieldType.int)]
set_option maxRecDepth 65536 in
theorem codes_eq : words1.filter isCode = codes1 := rfl
theorem w_codes : ∀ c ∈ words1.filter isCode, c.before args0 about1 = true := by
  rw [codes_eq]
  intro c hc
  simp only [codes1, List.mem_cons, List.not_mem_nil, or_false] at hc
  rcases hc with rfl | rfl | rfl | rfl
  · exact w_c0
  · exact w_c1
  · exact w_c2
  · exact w_c3
set_option maxRecDepth 65536 in
theorem w_t1 : words1.all (fun c => isCode c || c.before args0 about1) = true := by decide +kernel
theorem w_tables : (allAtoms (Jvm.Cond.code x code maxLocals ret :: tables_1)).before args0 about1 = true := by
  rw [allAtoms_all]
  show words1.all (fun c => c.before args0 about1) = true
  refine all_split ?_ w_codes
  rw [w_t1]
set_option maxRecDepth 65536 in
theorem w_case : (Jvm.Cond.and given_1 narrow_1).before args0 about1 = true := by decide +kernel
theorem w_applies : (headSpec (Jvm.Cond.code x code maxLocals ret :: tables_1) room_1).applies x e0.platform about1 = true :=
  (Spec.applies_iff w_frames).mpr ⟨w_running, w_runnable, w_alone, w_named, w_hears, w_ripe, w_room, w_tables⟩
theorem atStart : AtStart classFile x code maxLocals ret World_1 tables_1 room_1 Calls_1 rest_1 Pre_1 launch0 p0 e0 about1 theMethod args0 below0 :=
  ⟨lists_1, trivial, launch0.admits_env _ _ _, launch0.least_env, fairChoices_fair.cas, fairChoices_fair.clock, w_frames, w_args, w_heap, w_applies, trivial, trivial, w_case⟩
end start1
theorem witness_1 : WitnessClaimed_1 := ⟨start1.p0, start1.e0, start1.about1, start1.theMethod, start1.args0, start1.below0, start1.atStart⟩
end Jvm.Pilot.@@N@@
