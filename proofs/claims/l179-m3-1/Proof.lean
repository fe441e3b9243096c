import JvmDerived
import JvmDerived.Pilot.@@N@@Statement
import JvmDerived.Pilot.@@N@@Code
set_option linter.unusedVariables false
set_option linter.unusedSimpArgs false
namespace Jvm.RoadKit
open Sem ClassFile Op Lib Jvm.Stand Jvm.Free Jvm.LawKit
section New
variable {p : Program} {l : Launch} {e : Env} {R : Room} {s : State} {m : MethodId} {args : Array Value} {below : List Frame} {meth : Method} {c : Code} {T : State} {locs : List Loc} {cells slots : Nat}
theorem retI (X : Stand p l e R s m args below meth c T locs cells slots) (hx : p.tables.exec = Jvm.exec) {pc : Nat} {Ls : Array Slot} {z : Int32} {rest : List Value} (hret : meth.sig.returnType = some .int) (hd : decode c.code pc = .ok (.ireturn, 1)) {fs : List Frame}
    (hl : ∀ (f : JFrame) (acts : List Action), f.method = m → f.locked = none → f.entered = [] → (doReturn e (T.setTop f) acts (some (.int z))).1 = T.setFrames fs) : Steps p.tables e below (T.setTop (mkF m pc Ls (.int z :: rest))) (T.setFrames fs) := by
  have hm' : T.vm.method? m = some meth := X.method'
  have hn : narrow .int (.int z) = .int z := rfl
  show Steps p.tables e below (T.setTop { method := m, pc := pc, locals := Ls, stack := _ :: rest, locked := none }) _
  jvm_step X.here [X.here.top, hx, hd, hm', hret, hn]
  first | (intro acts; rw [hl _ acts rfl rfl rfl]) | rw [hl _ _ rfl rfl rfl]
  exact Steps.refl _
end New
end Jvm.RoadKit
namespace Jvm.Pilot.@@N@@
open Jvm Jvm.ClassFile Sem Op Lib Jvm.Free Jvm.Stand Jvm.LawKit Jvm.RoadKit Bundle Jvm.Pilot.@@N@@.Jvm.D
/-! the goals of a walk, and what closes them -/
def OEnd (p : Program) (e : Env) (below : List Frame) (s T : State) (g : JFrame) (Q : Option Value → Heap → List Loc → Prop) (kc ks : Nat) : Prop :=
  ∃ s₂ o, Steps p.tables e below (T.setTop g) s₂ ∧ s₂.status = .running ∧ Ended s₂ below o ∧ ∃ v L, o = .returned v ∧ Q v s₂.heap L ∧ FrameEnd s o s₂ L kc ks
def ORch (p : Program) (l : Launch) (e : Env) (R : Room) (s : State) (m : MethodId) (args : Array Value) (below : List Frame) (meth : Method) (c : Code) (n0 : Nat) (T : State) (g : JFrame) (h : Heap) (g' : JFrame) (cells slots : Nat) : Prop :=
  ∃ T' locs', Stand p l e R s m args below meth c T' locs' cells slots ∧ T'.heap = h ∧ Fr n0 locs' ∧ Goes p e below T g T' g'
def OArr (Z : State) (h : Heap) (a : Addr) (ty : FieldType) (n : Int32) (vs : List Value) (d : Value) : Prop := ∃ k, Arv Z h a k ty n vs d
def ORchH (p : Program) (l : Launch) (e : Env) (R : Room) (s : State) (m : MethodId) (args : Array Value) (below : List Frame) (meth : Method) (c : Code) (n0 : Nat) (T : State) (g : JFrame) (g' : JFrame) (cells slots : Nat) (P : Heap → Prop) : Prop :=
  ∃ T' h' locs', Stand p l e R s m args below meth c T' locs' cells slots ∧ T'.heap = h' ∧ Fr n0 locs' ∧ P h' ∧ Goes p e below T g T' g'
def ORchB (p : Program) (l : Launch) (e : Env) (R : Room) (s : State) (m : MethodId) (args : Array Value) (below : List Frame) (meth : Method) (c : Code) (n0 : Nat) (T : State) (g : JFrame) (g' : Addr → JFrame) (cells slots : Nat) (P : Heap → Addr → Prop) : Prop :=
  ∃ b T' h' locs', Stand p l e R s m args below meth c T' locs' cells slots ∧ T'.heap = h' ∧ Fr n0 locs' ∧ P h' b ∧ Goes p e below T g T' (g' b)
section Own
variable {p : Program} {l : Launch} {e : Env} {R : Room} {s : State} {m : MethodId} {args : Array Value} {below : List Frame} {meth : Method} {c : Code} {T T' : State} {locs : List Loc} {cells slots : Nat} {g g' g'' : JFrame} {Q : Option Value → Heap → List Loc → Prop} {kc ks : Nat}
theorem OEnd.go (k : Goes p e below T g T' g') (h : OEnd p e below s T' g' Q kc ks) : OEnd p e below s T g Q kc ks := by
  obtain ⟨s₂, o, h1, h2⟩ := h
  exact ⟨s₂, o, k _ h1, h2⟩
theorem ORch.go {n0 : Nat} {h : Heap} (k : Goes p e below T g T' g') (q : ORch p l e R s m args below meth c n0 T' g' h g'' cells slots) : ORch p l e R s m args below meth c n0 T g h g'' cells slots := by
  obtain ⟨T2, L2, h1, h2, h3, h4⟩ := q
  exact ⟨T2, L2, h1, h2, h3, fun t kt => k _ (h4 t kt)⟩
theorem ORchH.go {n0 : Nat} {P : Heap → Prop} (k : Goes p e below T g T' g') (q : ORchH p l e R s m args below meth c n0 T' g' g'' cells slots P) : ORchH p l e R s m args below meth c n0 T g g'' cells slots P := by
  obtain ⟨T2, h2, L2, h1, h2, h3, h4, h5⟩ := q
  exact ⟨T2, _, L2, h1, h2, h3, h4, fun t kt => k _ (h5 t kt)⟩
theorem ORchB.go {n0 : Nat} {P : Heap → Addr → Prop} {gb : Addr → JFrame} (k : Goes p e below T g T' g') (q : ORchB p l e R s m args below meth c n0 T' g' gb cells slots P) : ORchB p l e R s m args below meth c n0 T g gb cells slots P := by
  obtain ⟨b, T2, h2, L2, h1, h2, h3, h4, h5⟩ := q
  exact ⟨b, T2, _, L2, h1, h2, h3, h4, fun t kt => k _ (h5 t kt)⟩
theorem SGo.go {t : State} (k : Goes p e below T g T' g') (h : Steps p.tables e below (T'.setTop g') t) : Steps p.tables e below (T.setTop g) t := k _ h
theorem own_k {A : Type} {tb : Tables} {f : A → JFrame} {a b : A} {t : State} (q : a = b) (k : Steps tb e below (T.setTop (f a)) t) : Steps tb e below (T.setTop (f b)) t := q ▸ k
theorem own_symm {A : Type} {a b : A} (h : a = b) : b = a := h.symm
theorem own_via {A : Type} {a b c : A} (h : a = b) (k : a = c) : b = c := h.symm.trans k
theorem own_p {A : Type} {P : A → Prop} {a b : A} (q : a = b) (w : P a) : P b := q ▸ w
theorem own_at {h : Heap} {U : Heap} (q : U = h) {P : Heap → Prop} (w : P h) : P U := q ▸ w
theorem OArr.lt {Z : State} {h : Heap} {a : Addr} {ty : FieldType} {n : Int32} {vs : List Value} {d : Value} (F : OArr Z h a ty n vs d) : a < h.size := by obtain ⟨k, V⟩ := F; exact V.lt
theorem OArr.ext {Z : State} {h h' : Heap} {a : Addr} {ty : FieldType} {n : Int32} {vs : List Value} {d : Value} (F : OArr Z h a ty n vs d) (E : Ext h h') : OArr Z h' a ty n vs d := by obtain ⟨k, V⟩ := F; exact ⟨k, V.ext E⟩
theorem OArr.other {Z : State} {h h' : Heap} {a b : Addr} {ty : FieldType} {n : Int32} {vs : List Value} {d v : Value} {sl : Nat} (F : OArr Z h b ty n vs d) (W : Wr h h' a sl v) (q : b ≠ a) : OArr Z h' b ty n vs d := by obtain ⟨k, V⟩ := F; exact ⟨k, V.other W q⟩
theorem OArr.keep {Z : State} {h h' : Heap} {a : Addr} {ty : FieldType} {n : Int32} {vs : List Value} {d : Value} {ws : List Addr} (F : OArr Z h a ty n vs d) (K : Keep h h' ws) (q : a ∉ ws) : OArr Z h' a ty n vs d := by obtain ⟨k, V⟩ := F; exact ⟨k, V.keep K q⟩
theorem OEnd.int (X : Stand p l e R s m args below meth c T locs cells slots) (hx : p.tables.exec = Jvm.exec) {pc : Nat} {Ls : Array Slot} {z : Int32} {rest : List Value} (hret : meth.sig.returnType = some .int) (hlk : meth.locks = false) (hd : decode c.code pc = .ok (.ireturn, 1)) (hq : Q (some (.int z)) T.heap locs) (hc : cells ≤ kc) (hs : slots ≤ ks) :
    OEnd p e below s T (mkF m pc Ls (.int z :: rest)) Q kc ks := by
  obtain ⟨fs, hr, hrun, hended, hW, hsame⟩ := X.leave (v := some (.int z)) (fun h => by rw [hret] at h; cases h) hlk
  exact ⟨_, _, retI X hx hret hd hr, hrun, hended, _, _, rfl, hq, ⟨_, rfl⟩, hW, hsame.mono hc hs⟩
theorem OEnd.nar (X : Stand p l e R s m args below meth c T locs cells slots) (hx : p.tables.exec = Jvm.exec) {pc : Nat} {Ls : Array Slot} {z : Int32} {rest : List Value} {t : FieldType} (hret : meth.sig.returnType = some t) (ht : t = .boolean ∨ t = .byte ∨ t = .char ∨ t = .short) (hlk : meth.locks = false) (hd : decode c.code pc = .ok (.ireturn, 1)) (hq : Q (some (.int (nar t z))) T.heap locs) (hc : cells ≤ kc) (hs : slots ≤ ks) :
    OEnd p e below s T (mkF m pc Ls (.int z :: rest)) Q kc ks := by
  obtain ⟨fs, hr, hrun, hended, hW, hsame⟩ := X.leave (v := some (.int (RoadKit.nar t z))) (fun h => by rw [hret] at h; cases h) hlk
  exact ⟨_, _, retN X hx hret ht hd hr, hrun, hended, _, _, rfl, hq, ⟨_, rfl⟩, hW, hsame.mono hc hs⟩
theorem OEnd.long (X : Stand p l e R s m args below meth c T locs cells slots) (hx : p.tables.exec = Jvm.exec) {pc : Nat} {Ls : Array Slot} {z : Int64} (hret : meth.sig.returnType = some .long) (hlk : meth.locks = false) (hd : decode c.code pc = .ok (.lreturn, 1)) (hq : Q (some (.long z)) T.heap locs) (hc : cells ≤ kc) (hs : slots ≤ ks) :
    OEnd p e below s T (mkF m pc Ls [.long z]) Q kc ks := by
  obtain ⟨fs, hr, hrun, hended, hW, hsame⟩ := X.leave (v := some (.long z)) (fun h => by rw [hret] at h; cases h) hlk
  exact ⟨_, _, X.lreturnOut hx hret hd hr, hrun, hended, _, _, rfl, hq, ⟨_, rfl⟩, hW, hsame.mono hc hs⟩
theorem OEnd.void (X : Stand p l e R s m args below meth c T locs cells slots) (hx : p.tables.exec = Jvm.exec) {pc : Nat} {Ls : Array Slot} (hret : meth.sig.returnType = none) (hlk : meth.locks = false) (hd : decode c.code pc = .ok (.return_, 1)) (hq : Q none T.heap locs) (hc : cells ≤ kc) (hs : slots ≤ ks) :
    OEnd p e below s T (mkF m pc Ls []) Q kc ks := by
  obtain ⟨fs, hr, hrun, hended, hW, hsame⟩ := X.leave (v := none) (fun _ => rfl) hlk
  exact ⟨_, _, X.returnOut hx hret hd hr, hrun, hended, _, _, rfl, hq, ⟨_, rfl⟩, hW, hsame.mono hc hs⟩
end Own
theorem d2_0 : decode method_2_code 0 = .ok (.iload_n 0, 1) := by decide +kernel
theorem d2_1 : decode method_2_code 1 = .ok (.ifCond .lt 12, 3) := by decide +kernel
theorem d2_13 : decode method_2_code 13 = .ok (.iconst 0, 1) := by decide +kernel
theorem d2_4 : decode method_2_code 4 = .ok (.iload_n 0, 1) := by decide +kernel
theorem d2_5 : decode method_2_code 5 = .ok (.iload_n 1, 1) := by decide +kernel
theorem d2_6 : decode method_2_code 6 = .ok (.if_icmp .ge 7, 3) := by decide +kernel
theorem d2_9 : decode method_2_code 9 = .ok (.iconst 1, 1) := by decide +kernel
theorem d2_10 : decode method_2_code 10 = .ok (.goto 4, 3) := by decide +kernel
theorem d2_14 : decode method_2_code 14 = .ok (.ireturn, 1) := by decide +kernel
def f2 (p0 : Int32) (p1 : Int32) : Int32 := nar .boolean (if p0 < (0 : Int32) then (0 : Int32) else (if p0 < p1 then (1 : Int32) else (0 : Int32)))
theorem pn_com_example_assentor_assentor_check_OdometerAdvancePinLaw : plainName "com/example/assentor/assentor/check/OdometerAdvancePinLaw" = true := by first | (simp [plainName, overriddenIn]; done) | decide +kernel
theorem ef_2 (m : MethodId) (x0 : Int32) (x1 : Int32) : entryFrame m #[(.int x0), (.int x1)] 2 = mkF m 0 #[.val (.int x0), .val (.int x1)] [] := by first | (simp [entryFrame, mkF, argsToLocals, Value.category]; done) | rfl
def Q2 (Z : State) (p0 : Int32) (p1 : Int32) (h0 : Heap) (n0 : Nat) (v : Option Value) (h : Heap) (L : List Loc) : Prop := v = some (.int (f2 p0 p1)) ∧ Fr n0 L ∧ h = h0
set_option maxRecDepth 65536 in
set_option maxHeartbeats 40000000 in
theorem rm2 (l : Launch) (Z : State) (aZ : Array Value) (hw : ∀ d ∈ tables_1, d.before aZ Z = true) (ws : List Jvm.Cond) (p0 : Int32) (p1 : Int32) (h0 : Heap) (n0 : Nat) (Z0 : n0 ≤ h0.size) :
    MetFree l (⟨"com/example/assentor/assentor/check/OdometerAdvancePinLaw", "inRange", "(II)Z"⟩ : MethodName) (head1 (Jvm.Cond.code (⟨"com/example/assentor/assentor/check/OdometerAdvancePinLaw", "inRange", "(II)Z"⟩ : MethodName) method_2_code 2 (some .boolean) :: ws) ({ frames := 0, cells := 0, slots := 0, locals := 0 } : Room)) (fun a U => a = #[(.int p0), (.int p1)] ∧ Z.Warmed39 U.vm ∧ U.heap = h0) (fun _ _ _ _ _ => True) (fun _ U o U' => ∃ v L, o = .returned v ∧ Q2 Z p0 p1 h0 n0 v U'.heap L ∧ FrameEnd U o U' L ({ frames := 0, cells := 0, slots := 0, locals := 0 } : Room).cells ({ frames := 0, cells := 0, slots := 0, locals := 0 } : Room).slots) := by
  refine MetFree.of_bodySF (plainFor_of_name pn_com_example_assentor_assentor_check_OdometerAdvancePinLaw) hisR ?_
  intro p e s m args below meth c s₁ Bd hml0 hP hK
  obtain ⟨rfl, hZ, hh⟩ := hP
  have hx := Bd.exec
  have hby := Bd.bytes
  have hlk : meth.locks = false := BodyLoose.notSynchronized Bd
  have hml : c.maxLocals = 2 := hml0
  have hown : s.vm.findClass "com/example/assentor/assentor/check/OdometerAdvancePinLaw" = some m.cls := findClass_of_methodNamed Bd.named
  have hnm := (name_of_methodNamed Bd.named Bd.method).1
  have X0 : Stand p l e ({ frames := 0, cells := 0, slots := 0, locals := 0 } : Room) s m #[(.int p0), (.int p1)] below meth c s₁ [] 0 0 := Stand.of_body Bd
  have e0 : s₁.heap = h0 := by rw [← hh, Bd.state]; rfl
  have N0 := Fr.nil n0
  show OEnd p e below s s₁ (entryFrame m #[(.int p0), (.int p1)] 2) (Q2 Z p0 p1 h0 n0) ({ frames := 0, cells := 0, slots := 0, locals := 0 } : Room).cells ({ frames := 0, cells := 0, slots := 0, locals := 0 } : Room).slots
  refine OEnd.go (g' := (mkF m 0 #[.val (.int p0), .val (.int p1)] [])) (fun _ k => castTop (ef_2 m p0 p1) k) ?_
  refine OEnd.go (T' := s₁) (g' := (mkF m 1 #[.val (.int p0), .val (.int p1)] [(.int p0)])) (fun t k => ?_) ?_
  · show Steps p.tables e below (s₁.setTop (mkF m 0 #[.val (.int p0), .val (.int p1)] [])) t
    refine XS.iloadN X0.here hx rfl (hb hby d2_0) rfl ?_
    show Steps p.tables e below (s₁.setTop (mkF m 1 #[.val (.int p0), .val (.int p1)] [(.int p0)])) t
    exact k
  refine OEnd.go (T' := s₁) (g' := (mkF m 14 #[.val (.int p0), .val (.int p1)] [(.int (if p0 < (0 : Int32) then (0 : Int32) else (if p0 < p1 then (1 : Int32) else (0 : Int32))))])) (fun t k => ?_) ?_
  · show Steps p.tables e below (s₁.setTop (mkF m 1 #[.val (.int p0), .val (.int p1)] [(.int p0)])) t
    by_cases hc1 : p0 < (0 : Int32)
    · skip
      refine XS.ifYes X0.here hx rfl (pc0 := 1) (pc' := 13) rfl (hb hby d2_1) rfl ((if0 _ _).trans (tlt (hc1)).1) (by decide) (by decide) ?_
      show Steps p.tables e below (s₁.setTop (mkF m 13 #[.val (.int p0), .val (.int p1)] [])) t
      refine SGo.go (T' := s₁) (g' := (mkF m 14 #[.val (.int p0), .val (.int p1)] [(.int (0 : Int32))])) (fun t k => ?_) ?_
      · show Steps p.tables e below (s₁.setTop (mkF m 13 #[.val (.int p0), .val (.int p1)] [])) t
        refine XS.iconst X0.here hx rfl (hb hby d2_13) ?_
        show Steps p.tables e below (s₁.setTop (mkF m 14 #[.val (.int p0), .val (.int p1)] [(.int (0 : Int32))])) t
        exact k
      exact (own_k (f := fun (z : Int32) => mkF m 14 #[.val (.int p0), .val (.int p1)] [(.int z)]) (if_pos hc1) k)
    · skip
      refine XS.ifNo X0.here hx rfl (hb hby d2_1) rfl ((if0 _ _).trans (flt (hc1)).1) ?_
      show Steps p.tables e below (s₁.setTop (mkF m 4 #[.val (.int p0), .val (.int p1)] [])) t
      refine SGo.go (T' := s₁) (g' := (mkF m 6 #[.val (.int p0), .val (.int p1)] [(.int p1), (.int p0)])) (fun t k => ?_) ?_
      · show Steps p.tables e below (s₁.setTop (mkF m 4 #[.val (.int p0), .val (.int p1)] [])) t
        refine XS.iloadN X0.here hx rfl (hb hby d2_4) rfl ?_
        show Steps p.tables e below (s₁.setTop (mkF m 5 #[.val (.int p0), .val (.int p1)] [(.int p0)])) t
        refine XS.iloadN X0.here hx rfl (hb hby d2_5) rfl ?_
        show Steps p.tables e below (s₁.setTop (mkF m 6 #[.val (.int p0), .val (.int p1)] [(.int p1), (.int p0)])) t
        exact k
      by_cases hc2 : p0 < p1
      · skip
        refine XS.icmpNo X0.here hx rfl (hb hby d2_6) rfl (tlt (hc2)).2.1 ?_
        show Steps p.tables e below (s₁.setTop (mkF m 9 #[.val (.int p0), .val (.int p1)] [])) t
        refine SGo.go (T' := s₁) (g' := (mkF m 14 #[.val (.int p0), .val (.int p1)] [(.int (1 : Int32))])) (fun t k => ?_) ?_
        · show Steps p.tables e below (s₁.setTop (mkF m 9 #[.val (.int p0), .val (.int p1)] [])) t
          refine XS.iconst X0.here hx rfl (hb hby d2_9) ?_
          show Steps p.tables e below (s₁.setTop (mkF m 10 #[.val (.int p0), .val (.int p1)] [(.int (1 : Int32))])) t
          refine XS.goto X0.here hx rfl (pc0 := 10) (pc' := 14) rfl (hb hby d2_10) (by decide) (by decide) ?_
          show Steps p.tables e below (s₁.setTop (mkF m 14 #[.val (.int p0), .val (.int p1)] [(.int (1 : Int32))])) t
          exact k
        exact (own_k (f := fun (z : Int32) => mkF m 14 #[.val (.int p0), .val (.int p1)] [(.int z)]) ((if_neg hc1).trans (if_pos hc2)) k)
      · skip
        refine XS.icmpYes X0.here hx rfl (pc0 := 6) (pc' := 13) rfl (hb hby d2_6) rfl (flt (hc2)).2.1 (by decide) (by decide) ?_
        show Steps p.tables e below (s₁.setTop (mkF m 13 #[.val (.int p0), .val (.int p1)] [])) t
        refine SGo.go (T' := s₁) (g' := (mkF m 14 #[.val (.int p0), .val (.int p1)] [(.int (0 : Int32))])) (fun t k => ?_) ?_
        · show Steps p.tables e below (s₁.setTop (mkF m 13 #[.val (.int p0), .val (.int p1)] [])) t
          refine XS.iconst X0.here hx rfl (hb hby d2_13) ?_
          show Steps p.tables e below (s₁.setTop (mkF m 14 #[.val (.int p0), .val (.int p1)] [(.int (0 : Int32))])) t
          exact k
        exact (own_k (f := fun (z : Int32) => mkF m 14 #[.val (.int p0), .val (.int p1)] [(.int z)]) ((if_neg hc1).trans (if_neg hc2)) k)
  exact OEnd.nar X0 hx (t := .boolean) Bd.returns (by simp) hlk (hb hby d2_14) ⟨rfl, N0, e0⟩ (by decide) (by decide)
theorem d1_0 : decode prog_15_method_2_code 0 = .ok (.iconst 0, 1) := by decide +kernel
theorem d1_1 : decode prog_15_method_2_code 1 = .ok (.istore_n 2, 1) := by decide +kernel
theorem d1_2 : decode prog_15_method_2_code 2 = .ok (.iload_n 2, 1) := by decide +kernel
theorem d1_3 : decode prog_15_method_2_code 3 = .ok (.aload_n 0, 1) := by decide +kernel
theorem d1_4 : decode prog_15_method_2_code 4 = .ok (.arraylength, 1) := by decide +kernel
theorem d1_5 : decode prog_15_method_2_code 5 = .ok (.if_icmp .ge 29, 3) := by decide +kernel
theorem d1_34 : decode prog_15_method_2_code 34 = .ok (.iconst 0, 1) := by decide +kernel
theorem d1_35 : decode prog_15_method_2_code 35 = .ok (.ireturn, 1) := by decide +kernel
def f1_0  : Int32 := nar .boolean (0 : Int32)
theorem pn_com_example_assentor_assentor_check_Odometer : plainName "com/example/assentor/assentor/check/Odometer" = true := by first | (simp [plainName, overriddenIn]; done) | decide +kernel
theorem ef_1_0 (m : MethodId) (x0 : Addr) (x1 : Addr) : entryFrame m #[(.ref x0), (.ref x1)] 3 = mkF m 0 #[.val (.ref x0), .val (.ref x1), .unset] [] := by first | (simp [entryFrame, mkF, argsToLocals, Value.category]; done) | rfl
def Q1_0 (Z : State) (a0 : Addr) (a1 : Addr) (h0 : Heap) (n0 : Nat) (v : Option Value) (h : Heap) (L : List Loc) : Prop := v = some (.int f1_0) ∧ Fr n0 L ∧ Keep h0 h [a0] ∧ OArr Z h a0 .int (0 : Int32) [] (.int (0 : Int32))
set_option maxRecDepth 65536 in
set_option maxHeartbeats 40000000 in
theorem rm1_0 (l : Launch) (Z : State) (aZ : Array Value) (hw : ∀ d ∈ tables_1, d.before aZ Z = true) (ws : List Jvm.Cond) (a0 : Addr) (a1 : Addr) (h0 : Heap) (n0 : Nat) (Z0 : n0 ≤ h0.size) (A0 : OArr Z h0 a0 .int (0 : Int32) [] (.int (0 : Int32))) (A1 : OArr Z h0 a1 .int (0 : Int32) [] (.int (0 : Int32))) (ne01 : a0 ≠ a1) (g0 : n0 ≤ a0) :
    MetFree l (⟨"com/example/assentor/assentor/check/Odometer", "advance", "([I[I)Z"⟩ : MethodName) (head1 (Jvm.Cond.code (⟨"com/example/assentor/assentor/check/Odometer", "advance", "([I[I)Z"⟩ : MethodName) prog_15_method_2_code 3 (some .boolean) :: ws) ({ frames := 0, cells := 0, slots := 0, locals := 0 } : Room)) (fun a U => a = #[(.ref a0), (.ref a1)] ∧ Z.Warmed39 U.vm ∧ U.heap = h0) (fun _ _ _ _ _ => True) (fun _ U o U' => ∃ v L, o = .returned v ∧ Q1_0 Z a0 a1 h0 n0 v U'.heap L ∧ FrameEnd U o U' L ({ frames := 0, cells := 0, slots := 0, locals := 0 } : Room).cells ({ frames := 0, cells := 0, slots := 0, locals := 0 } : Room).slots) := by
  refine MetFree.of_bodySF (plainFor_of_name pn_com_example_assentor_assentor_check_Odometer) hisR ?_
  intro p e s m args below meth c s₁ Bd hml0 hP hK
  obtain ⟨rfl, hZ, hh⟩ := hP
  have hx := Bd.exec
  have hby := Bd.bytes
  have hlk : meth.locks = false := BodyLoose.notSynchronized Bd
  have hml : c.maxLocals = 3 := hml0
  have hown : s.vm.findClass "com/example/assentor/assentor/check/Odometer" = some m.cls := findClass_of_methodNamed Bd.named
  have hnm := (name_of_methodNamed Bd.named Bd.method).1
  have X0 : Stand p l e ({ frames := 0, cells := 0, slots := 0, locals := 0 } : Room) s m #[(.ref a0), (.ref a1)] below meth c s₁ [] 0 0 := Stand.of_body Bd
  have e0 : s₁.heap = h0 := by rw [← hh, Bd.state]; rfl
  have N0 := Fr.nil n0
  have K0 : Keep h0 h0 [a0] := Keep.refl _ _
  show OEnd p e below s s₁ (entryFrame m #[(.ref a0), (.ref a1)] 3) (Q1_0 Z a0 a1 h0 n0) ({ frames := 0, cells := 0, slots := 0, locals := 0 } : Room).cells ({ frames := 0, cells := 0, slots := 0, locals := 0 } : Room).slots
  refine OEnd.go (g' := (mkF m 0 #[.val (.ref a0), .val (.ref a1), .unset] [])) (fun _ k => castTop (ef_1_0 m a0 a1) k) ?_
  refine OEnd.go (T' := s₁) (g' := (mkF m 4 #[.val (.ref a0), .val (.ref a1), .val (.int (0 : Int32))] [(.ref a0), (.int (0 : Int32))])) (fun t k => ?_) ?_
  · show Steps p.tables e below (s₁.setTop (mkF m 0 #[.val (.ref a0), .val (.ref a1), .unset] [])) t
    refine XS.iconst X0.here hx rfl (hb hby d1_0) ?_
    show Steps p.tables e below (s₁.setTop (mkF m 1 #[.val (.ref a0), .val (.ref a1), .unset] [(.int (0 : Int32))])) t
    refine XS.istoreN X0.here hx rfl (hb hby d1_1) rfl (l' := #[.val (.ref a0), .val (.ref a1), .val (.int (0 : Int32))]) rfl ?_
    show Steps p.tables e below (s₁.setTop (mkF m 2 #[.val (.ref a0), .val (.ref a1), .val (.int (0 : Int32))] [])) t
    refine XS.iloadN X0.here hx rfl (hb hby d1_2) rfl ?_
    show Steps p.tables e below (s₁.setTop (mkF m 3 #[.val (.ref a0), .val (.ref a1), .val (.int (0 : Int32))] [(.int (0 : Int32))])) t
    refine XS.aloadN X0.here hx rfl (hb hby d1_3) rfl rfl ?_
    show Steps p.tables e below (s₁.setTop (mkF m 4 #[.val (.ref a0), .val (.ref a1), .val (.int (0 : Int32))] [(.ref a0), (.int (0 : Int32))])) t
    exact k
  obtain ⟨kc1, cl1, Ar1, q1, S1, M1, H1, G1⟩ := id A0
  refine OEnd.go (T' := s₁) (g' := (mkF m 5 #[.val (.ref a0), .val (.ref a1), .val (.int (0 : Int32))] [(.int (0 : Int32)), (.int (0 : Int32))])) (fun t k => ?_) ?_
  · refine X0.arraylength hx (by rw [e0]; exact Ar1.1) (State.isArrayOf_alike hZ.alike Ar1.2.1) (g := (mkF m 4 #[.val (.ref a0), .val (.ref a1), .val (.int (0 : Int32))] [(.ref a0), (.int (0 : Int32))])) rfl rfl (hb hby d1_4) _ ?_
    rw [len_of S1 M1]
    exact k
  refine OEnd.go (T' := s₁) (g' := (mkF m 35 #[.val (.ref a0), .val (.ref a1), .val (.int (0 : Int32))] [(.int (0 : Int32))])) (fun t k => ?_) ?_
  · show Steps p.tables e below (s₁.setTop (mkF m 5 #[.val (.ref a0), .val (.ref a1), .val (.int (0 : Int32))] [(.int (0 : Int32)), (.int (0 : Int32))])) t
    refine XS.icmpYes X0.here hx rfl (pc0 := 5) (pc' := 34) rfl (hb hby d1_5) rfl (flt ((by decide))).2.1 (by decide) (by decide) ?_
    show Steps p.tables e below (s₁.setTop (mkF m 34 #[.val (.ref a0), .val (.ref a1), .val (.int (0 : Int32))] [])) t
    refine XS.iconst X0.here hx rfl (hb hby d1_34) ?_
    show Steps p.tables e below (s₁.setTop (mkF m 35 #[.val (.ref a0), .val (.ref a1), .val (.int (0 : Int32))] [(.int (0 : Int32))])) t
    exact k
  exact OEnd.nar X0 hx (t := .boolean) Bd.returns (by simp) hlk (hb hby d1_35) ⟨rfl, N0, (own_at e0 (P := fun h => Keep h0 h [a0]) K0), (own_at e0 (P := fun h => OArr Z h a0 .int (0 : Int32) [] (.int (0 : Int32))) A0)⟩ (by decide) (by decide)
theorem d1_8 : decode prog_15_method_2_code 8 = .ok (.aload_n 0, 1) := by decide +kernel
theorem d1_9 : decode prog_15_method_2_code 9 = .ok (.iload_n 2, 1) := by decide +kernel
theorem d1_10 : decode prog_15_method_2_code 10 = .ok (.dup2, 1) := by decide +kernel
theorem d1_11 : decode prog_15_method_2_code 11 = .ok (.iaload, 1) := by decide +kernel
theorem d1_12 : decode prog_15_method_2_code 12 = .ok (.iconst 1, 1) := by decide +kernel
theorem d1_13 : decode prog_15_method_2_code 13 = .ok (.iadd, 1) := by decide +kernel
theorem d1_14 : decode prog_15_method_2_code 14 = .ok (.dup_x2, 1) := by decide +kernel
theorem d1_15 : decode prog_15_method_2_code 15 = .ok (.iastore, 1) := by decide +kernel
theorem d1_16 : decode prog_15_method_2_code 16 = .ok (.aload_n 1, 1) := by decide +kernel
theorem d1_17 : decode prog_15_method_2_code 17 = .ok (.iload_n 2, 1) := by decide +kernel
theorem d1_18 : decode prog_15_method_2_code 18 = .ok (.iaload, 1) := by decide +kernel
theorem d1_19 : decode prog_15_method_2_code 19 = .ok (.if_icmp .ge 5, 3) := by decide +kernel
theorem d1_22 : decode prog_15_method_2_code 22 = .ok (.iconst 1, 1) := by decide +kernel
theorem d1_23 : decode prog_15_method_2_code 23 = .ok (.ireturn, 1) := by decide +kernel
theorem d1_24 : decode prog_15_method_2_code 24 = .ok (.aload_n 0, 1) := by decide +kernel
theorem d1_25 : decode prog_15_method_2_code 25 = .ok (.iload_n 2, 1) := by decide +kernel
theorem d1_26 : decode prog_15_method_2_code 26 = .ok (.iconst 0, 1) := by decide +kernel
theorem d1_27 : decode prog_15_method_2_code 27 = .ok (.iastore, 1) := by decide +kernel
theorem d1_28 : decode prog_15_method_2_code 28 = .ok (.iinc 2 1, 3) := by decide +kernel
theorem d1_31 : decode prog_15_method_2_code 31 = .ok (.goto (-29), 3) := by decide +kernel
def f1_1 (x0 : Int32) (y0 : Int32) : Int32 := nar .boolean (if (x0 + (1 : Int32)) < y0 then (1 : Int32) else (0 : Int32))
theorem ef_1_1 (m : MethodId) (x0 : Addr) (x1 : Addr) : entryFrame m #[(.ref x0), (.ref x1)] 3 = mkF m 0 #[.val (.ref x0), .val (.ref x1), .unset] [] := by first | (simp [entryFrame, mkF, argsToLocals, Value.category]; done) | rfl
def Q1_1 (Z : State) (a0 : Addr) (a1 : Addr) (x0 : Int32) (y0 : Int32) (h0 : Heap) (n0 : Nat) (v : Option Value) (h : Heap) (L : List Loc) : Prop := v = some (.int (f1_1 x0 y0)) ∧ Fr n0 L ∧ Keep h0 h [a0] ∧ OArr Z h a0 .int (1 : Int32) [(.int (if (x0 + (1 : Int32)) < y0 then (x0 + (1 : Int32)) else (0 : Int32)))] (.int (0 : Int32))
set_option maxRecDepth 65536 in
set_option maxHeartbeats 40000000 in
theorem rm1_1 (l : Launch) (Z : State) (aZ : Array Value) (hw : ∀ d ∈ tables_1, d.before aZ Z = true) (ws : List Jvm.Cond) (a0 : Addr) (a1 : Addr) (x0 : Int32) (y0 : Int32) (h0 : Heap) (n0 : Nat) (Z0 : n0 ≤ h0.size) (A0 : OArr Z h0 a0 .int (1 : Int32) [(.int x0)] (.int (0 : Int32))) (A1 : OArr Z h0 a1 .int (1 : Int32) [(.int y0)] (.int (0 : Int32))) (ne01 : a0 ≠ a1) (g0 : n0 ≤ a0) :
    MetFree l (⟨"com/example/assentor/assentor/check/Odometer", "advance", "([I[I)Z"⟩ : MethodName) (head1 (Jvm.Cond.code (⟨"com/example/assentor/assentor/check/Odometer", "advance", "([I[I)Z"⟩ : MethodName) prog_15_method_2_code 3 (some .boolean) :: ws) ({ frames := 0, cells := 0, slots := 0, locals := 0 } : Room)) (fun a U => a = #[(.ref a0), (.ref a1)] ∧ Z.Warmed39 U.vm ∧ U.heap = h0) (fun _ _ _ _ _ => True) (fun _ U o U' => ∃ v L, o = .returned v ∧ Q1_1 Z a0 a1 x0 y0 h0 n0 v U'.heap L ∧ FrameEnd U o U' L ({ frames := 0, cells := 0, slots := 0, locals := 0 } : Room).cells ({ frames := 0, cells := 0, slots := 0, locals := 0 } : Room).slots) := by
  refine MetFree.of_bodySF (plainFor_of_name pn_com_example_assentor_assentor_check_Odometer) hisR ?_
  intro p e s m args below meth c s₁ Bd hml0 hP hK
  obtain ⟨rfl, hZ, hh⟩ := hP
  have hx := Bd.exec
  have hby := Bd.bytes
  have hlk : meth.locks = false := BodyLoose.notSynchronized Bd
  have hml : c.maxLocals = 3 := hml0
  have hown : s.vm.findClass "com/example/assentor/assentor/check/Odometer" = some m.cls := findClass_of_methodNamed Bd.named
  have hnm := (name_of_methodNamed Bd.named Bd.method).1
  have X0 : Stand p l e ({ frames := 0, cells := 0, slots := 0, locals := 0 } : Room) s m #[(.ref a0), (.ref a1)] below meth c s₁ [] 0 0 := Stand.of_body Bd
  have e0 : s₁.heap = h0 := by rw [← hh, Bd.state]; rfl
  have N0 := Fr.nil n0
  have K0 : Keep h0 h0 [a0] := Keep.refl _ _
  show OEnd p e below s s₁ (entryFrame m #[(.ref a0), (.ref a1)] 3) (Q1_1 Z a0 a1 x0 y0 h0 n0) ({ frames := 0, cells := 0, slots := 0, locals := 0 } : Room).cells ({ frames := 0, cells := 0, slots := 0, locals := 0 } : Room).slots
  refine OEnd.go (g' := (mkF m 0 #[.val (.ref a0), .val (.ref a1), .unset] [])) (fun _ k => castTop (ef_1_1 m a0 a1) k) ?_
  refine OEnd.go (T' := s₁) (g' := (mkF m 4 #[.val (.ref a0), .val (.ref a1), .val (.int (0 : Int32))] [(.ref a0), (.int (0 : Int32))])) (fun t k => ?_) ?_
  · show Steps p.tables e below (s₁.setTop (mkF m 0 #[.val (.ref a0), .val (.ref a1), .unset] [])) t
    refine XS.iconst X0.here hx rfl (hb hby d1_0) ?_
    show Steps p.tables e below (s₁.setTop (mkF m 1 #[.val (.ref a0), .val (.ref a1), .unset] [(.int (0 : Int32))])) t
    refine XS.istoreN X0.here hx rfl (hb hby d1_1) rfl (l' := #[.val (.ref a0), .val (.ref a1), .val (.int (0 : Int32))]) rfl ?_
    show Steps p.tables e below (s₁.setTop (mkF m 2 #[.val (.ref a0), .val (.ref a1), .val (.int (0 : Int32))] [])) t
    refine XS.iloadN X0.here hx rfl (hb hby d1_2) rfl ?_
    show Steps p.tables e below (s₁.setTop (mkF m 3 #[.val (.ref a0), .val (.ref a1), .val (.int (0 : Int32))] [(.int (0 : Int32))])) t
    refine XS.aloadN X0.here hx rfl (hb hby d1_3) rfl rfl ?_
    show Steps p.tables e below (s₁.setTop (mkF m 4 #[.val (.ref a0), .val (.ref a1), .val (.int (0 : Int32))] [(.ref a0), (.int (0 : Int32))])) t
    exact k
  obtain ⟨kc1, cl1, Ar1, q1, S1, M1, H1, G1⟩ := id A0
  refine OEnd.go (T' := s₁) (g' := (mkF m 5 #[.val (.ref a0), .val (.ref a1), .val (.int (0 : Int32))] [(.int (1 : Int32)), (.int (0 : Int32))])) (fun t k => ?_) ?_
  · refine X0.arraylength hx (by rw [e0]; exact Ar1.1) (State.isArrayOf_alike hZ.alike Ar1.2.1) (g := (mkF m 4 #[.val (.ref a0), .val (.ref a1), .val (.int (0 : Int32))] [(.ref a0), (.int (0 : Int32))])) rfl rfl (hb hby d1_4) _ ?_
    rw [len_of S1 M1]
    exact k
  refine OEnd.go (T' := s₁) (g' := (mkF m 11 #[.val (.ref a0), .val (.ref a1), .val (.int (0 : Int32))] [(.int (0 : Int32)), (.ref a0), (.int (0 : Int32)), (.ref a0)])) (fun t k => ?_) ?_
  · show Steps p.tables e below (s₁.setTop (mkF m 5 #[.val (.ref a0), .val (.ref a1), .val (.int (0 : Int32))] [(.int (1 : Int32)), (.int (0 : Int32))])) t
    refine XS.icmpNo X0.here hx rfl (hb hby d1_5) rfl (tlt ((by decide))).2.1 ?_
    show Steps p.tables e below (s₁.setTop (mkF m 8 #[.val (.ref a0), .val (.ref a1), .val (.int (0 : Int32))] [])) t
    refine XS.aloadN X0.here hx rfl (hb hby d1_8) rfl rfl ?_
    show Steps p.tables e below (s₁.setTop (mkF m 9 #[.val (.ref a0), .val (.ref a1), .val (.int (0 : Int32))] [(.ref a0)])) t
    refine XS.iloadN X0.here hx rfl (hb hby d1_9) rfl ?_
    show Steps p.tables e below (s₁.setTop (mkF m 10 #[.val (.ref a0), .val (.ref a1), .val (.int (0 : Int32))] [(.int (0 : Int32)), (.ref a0)])) t
    jvm_step X0.here [X0.here.top, hx, (hb hby d1_10), Value.category]
    show Steps p.tables e below (s₁.setTop (mkF m 11 #[.val (.ref a0), .val (.ref a1), .val (.int (0 : Int32))] [(.int (0 : Int32)), (.ref a0), (.int (0 : Int32)), (.ref a0)])) t
    exact k
  obtain ⟨kc2, cl2, Ar2, q2, S2, M2, H2, G2⟩ := id A0
  have hin2 : ¬ ((0 : Int32) < 0 ∨ cl2.slots.size ≤ ((0 : Int32)).toNatClampNeg) := inb_of S2 ⟨by decide, by decide⟩
  have hat2 : cl2.slots[((0 : Int32)).toNatClampNeg]? = some (.int x0) := Has.at H2 hin2 rfl
  refine OEnd.go (T' := s₁) (g' := (mkF m 12 #[.val (.ref a0), .val (.ref a1), .val (.int (0 : Int32))] [(.int x0), (.int (0 : Int32)), (.ref a0)])) (fun t k => ?_) ?_
  · refine X0.iaload hx (j := (0 : Int32)) (v := (.int x0)) (by rw [e0]; exact Ar2.1) (State.isArrayOf_alike hZ.alike Ar2.2.1) Ar2.2.2 hin2 hat2 (g := (mkF m 11 #[.val (.ref a0), .val (.ref a1), .val (.int (0 : Int32))] [(.int (0 : Int32)), (.ref a0), (.int (0 : Int32)), (.ref a0)])) rfl rfl (hb hby d1_11) _ ?_
    exact k
  refine OEnd.go (T' := s₁) (g' := (mkF m 15 #[.val (.ref a0), .val (.ref a1), .val (.int (0 : Int32))] [(.int (x0 + (1 : Int32))), (.int (0 : Int32)), (.ref a0), (.int (x0 + (1 : Int32)))])) (fun t k => ?_) ?_
  · show Steps p.tables e below (s₁.setTop (mkF m 12 #[.val (.ref a0), .val (.ref a1), .val (.int (0 : Int32))] [(.int x0), (.int (0 : Int32)), (.ref a0)])) t
    refine XS.iconst X0.here hx rfl (hb hby d1_12) ?_
    show Steps p.tables e below (s₁.setTop (mkF m 13 #[.val (.ref a0), .val (.ref a1), .val (.int (0 : Int32))] [(.int (1 : Int32)), (.int x0), (.int (0 : Int32)), (.ref a0)])) t
    refine XS.iadd X0.here hx rfl (hb hby d1_13) rfl ?_
    show Steps p.tables e below (s₁.setTop (mkF m 14 #[.val (.ref a0), .val (.ref a1), .val (.int (0 : Int32))] [(.int (x0 + (1 : Int32))), (.int (0 : Int32)), (.ref a0)])) t
    jvm_step X0.here [X0.here.top, hx, (hb hby d1_14), Value.category]
    show Steps p.tables e below (s₁.setTop (mkF m 15 #[.val (.ref a0), .val (.ref a1), .val (.int (0 : Int32))] [(.int (x0 + (1 : Int32))), (.int (0 : Int32)), (.ref a0), (.int (x0 + (1 : Int32)))])) t
    exact k
  obtain ⟨kc3, cl3, Ar3, q3, S3, M3, H3, G3⟩ := id A0
  have hin3 : ¬ ((0 : Int32) < 0 ∨ cl3.slots.size ≤ ((0 : Int32)).toNatClampNeg) := inb_of S3 ⟨by decide, by decide⟩
  obtain ⟨T3, h3, X3, e3, W3, st3⟩ := stI X0 hx hZ e0 Ar3 (j := (0 : Int32)) hin3 (g := (mkF m 15 #[.val (.ref a0), .val (.ref a1), .val (.int (0 : Int32))] [(.int (x0 + (1 : Int32))), (.int (0 : Int32)), (.ref a0), (.int (x0 + (1 : Int32)))])) rfl rfl (hb hby d1_15)
  have N3 := Fr.snoc X3 N0 g0
  have Z3 : n0 ≤ h3.size := Nat.le_trans Z0 (Keep.of_wr W3).1
  have K3 : Keep h0 h3 [a0] := K0.wr W3 (Or.inl (List.mem_of_getElem? (i := 0) rfl))
  have V3 : OArr Z h3 a0 .int (1 : Int32) [(.int (x0 + (1 : Int32)))] (.int (0 : Int32)) := ⟨_, Arv.set Ar3 q3 S3 M3 H3 G3 rfl W3 0 rfl (Nat.le_of_ble_eq_true rfl)⟩
  have fc4 : OArr Z h3 a1 .int (1 : Int32) [(.int y0)] (.int (0 : Int32)) := (A1.other W3 (Ne.symm ne01))
  refine OEnd.go (g' := (mkF m 16 #[.val (.ref a0), .val (.ref a1), .val (.int (0 : Int32))] [(.int (x0 + (1 : Int32)))])) st3 ?_
  refine OEnd.go (T' := T3) (g' := (mkF m 18 #[.val (.ref a0), .val (.ref a1), .val (.int (0 : Int32))] [(.int (0 : Int32)), (.ref a1), (.int (x0 + (1 : Int32)))])) (fun t k => ?_) ?_
  · show Steps p.tables e below (T3.setTop (mkF m 16 #[.val (.ref a0), .val (.ref a1), .val (.int (0 : Int32))] [(.int (x0 + (1 : Int32)))])) t
    refine XS.aloadN X3.here hx rfl (hb hby d1_16) rfl rfl ?_
    show Steps p.tables e below (T3.setTop (mkF m 17 #[.val (.ref a0), .val (.ref a1), .val (.int (0 : Int32))] [(.ref a1), (.int (x0 + (1 : Int32)))])) t
    refine XS.iloadN X3.here hx rfl (hb hby d1_17) rfl ?_
    show Steps p.tables e below (T3.setTop (mkF m 18 #[.val (.ref a0), .val (.ref a1), .val (.int (0 : Int32))] [(.int (0 : Int32)), (.ref a1), (.int (x0 + (1 : Int32)))])) t
    exact k
  obtain ⟨kc5, cl5, Ar5, q5, S5, M5, H5, G5⟩ := id fc4
  have hin5 : ¬ ((0 : Int32) < 0 ∨ cl5.slots.size ≤ ((0 : Int32)).toNatClampNeg) := inb_of S5 ⟨by decide, by decide⟩
  have hat5 : cl5.slots[((0 : Int32)).toNatClampNeg]? = some (.int y0) := Has.at H5 hin5 rfl
  refine OEnd.go (T' := T3) (g' := (mkF m 19 #[.val (.ref a0), .val (.ref a1), .val (.int (0 : Int32))] [(.int y0), (.int (x0 + (1 : Int32)))])) (fun t k => ?_) ?_
  · refine X3.iaload hx (j := (0 : Int32)) (v := (.int y0)) (by rw [e3]; exact Ar5.1) (State.isArrayOf_alike hZ.alike Ar5.2.1) Ar5.2.2 hin5 hat5 (g := (mkF m 18 #[.val (.ref a0), .val (.ref a1), .val (.int (0 : Int32))] [(.int (0 : Int32)), (.ref a1), (.int (x0 + (1 : Int32)))])) rfl rfl (hb hby d1_18) _ ?_
    exact k
  by_cases hc6 : (x0 + (1 : Int32)) < y0
  · skip
    refine OEnd.go (T' := T3) (g' := (mkF m 22 #[.val (.ref a0), .val (.ref a1), .val (.int (0 : Int32))] [])) (fun t k => ?_) ?_
    · show Steps p.tables e below (T3.setTop (mkF m 19 #[.val (.ref a0), .val (.ref a1), .val (.int (0 : Int32))] [(.int y0), (.int (x0 + (1 : Int32)))])) t
      refine XS.icmpNo X3.here hx rfl (hb hby d1_19) rfl (tlt (hc6)).2.1 ?_
      show Steps p.tables e below (T3.setTop (mkF m 22 #[.val (.ref a0), .val (.ref a1), .val (.int (0 : Int32))] [])) t
      exact k
    refine OEnd.go (T' := T3) (g' := (mkF m 23 #[.val (.ref a0), .val (.ref a1), .val (.int (0 : Int32))] [(.int (1 : Int32))])) (fun t k => ?_) ?_
    · show Steps p.tables e below (T3.setTop (mkF m 22 #[.val (.ref a0), .val (.ref a1), .val (.int (0 : Int32))] [])) t
      refine XS.iconst X3.here hx rfl (hb hby d1_22) ?_
      show Steps p.tables e below (T3.setTop (mkF m 23 #[.val (.ref a0), .val (.ref a1), .val (.int (0 : Int32))] [(.int (1 : Int32))])) t
      exact k
    exact OEnd.nar X3 hx (t := .boolean) Bd.returns (by simp) hlk (hb hby d1_23) ⟨(congrArg (fun z => some (Value.int (nar .boolean z))) (own_symm (if_pos hc6))), N3, (own_at e3 (P := fun h => Keep h0 h [a0]) K3), (own_p (P := fun (z : Int32) => OArr Z _ a0 .int (1 : Int32) [(.int z)] (.int (0 : Int32))) (own_symm (if_pos hc6)) (own_at e3 (P := fun h => OArr Z h a0 .int (1 : Int32) [(.int (x0 + (1 : Int32)))] (.int (0 : Int32))) V3))⟩ (by decide) (by decide)
  · skip
    refine OEnd.go (T' := T3) (g' := (mkF m 24 #[.val (.ref a0), .val (.ref a1), .val (.int (0 : Int32))] [])) (fun t k => ?_) ?_
    · show Steps p.tables e below (T3.setTop (mkF m 19 #[.val (.ref a0), .val (.ref a1), .val (.int (0 : Int32))] [(.int y0), (.int (x0 + (1 : Int32)))])) t
      refine XS.icmpYes X3.here hx rfl (pc0 := 19) (pc' := 24) rfl (hb hby d1_19) rfl (flt (hc6)).2.1 (by decide) (by decide) ?_
      show Steps p.tables e below (T3.setTop (mkF m 24 #[.val (.ref a0), .val (.ref a1), .val (.int (0 : Int32))] [])) t
      exact k
    refine OEnd.go (T' := T3) (g' := (mkF m 27 #[.val (.ref a0), .val (.ref a1), .val (.int (0 : Int32))] [(.int (0 : Int32)), (.int (0 : Int32)), (.ref a0)])) (fun t k => ?_) ?_
    · show Steps p.tables e below (T3.setTop (mkF m 24 #[.val (.ref a0), .val (.ref a1), .val (.int (0 : Int32))] [])) t
      refine XS.aloadN X3.here hx rfl (hb hby d1_24) rfl rfl ?_
      show Steps p.tables e below (T3.setTop (mkF m 25 #[.val (.ref a0), .val (.ref a1), .val (.int (0 : Int32))] [(.ref a0)])) t
      refine XS.iloadN X3.here hx rfl (hb hby d1_25) rfl ?_
      show Steps p.tables e below (T3.setTop (mkF m 26 #[.val (.ref a0), .val (.ref a1), .val (.int (0 : Int32))] [(.int (0 : Int32)), (.ref a0)])) t
      refine XS.iconst X3.here hx rfl (hb hby d1_26) ?_
      show Steps p.tables e below (T3.setTop (mkF m 27 #[.val (.ref a0), .val (.ref a1), .val (.int (0 : Int32))] [(.int (0 : Int32)), (.int (0 : Int32)), (.ref a0)])) t
      exact k
    obtain ⟨kc7, cl7, Ar7, q7, S7, M7, H7, G7⟩ := id V3
    have hin7 : ¬ ((0 : Int32) < 0 ∨ cl7.slots.size ≤ ((0 : Int32)).toNatClampNeg) := inb_of S7 ⟨by decide, by decide⟩
    obtain ⟨T7, h7, X7, e7, W7, st7⟩ := stI X3 hx hZ e3 Ar7 (j := (0 : Int32)) hin7 (g := (mkF m 27 #[.val (.ref a0), .val (.ref a1), .val (.int (0 : Int32))] [(.int (0 : Int32)), (.int (0 : Int32)), (.ref a0)])) rfl rfl (hb hby d1_27)
    have N7 := Fr.snoc X7 N3 g0
    have Z7 : n0 ≤ h7.size := Nat.le_trans Z3 (Keep.of_wr W7).1
    have K7 : Keep h0 h7 [a0] := K3.wr W7 (Or.inl (List.mem_of_getElem? (i := 0) rfl))
    have V7 : OArr Z h7 a0 .int (1 : Int32) [(.int (0 : Int32))] (.int (0 : Int32)) := ⟨_, Arv.set Ar7 q7 S7 M7 H7 G7 rfl W7 0 rfl (Nat.le_of_ble_eq_true rfl)⟩
    have fc8 : OArr Z h7 a1 .int (1 : Int32) [(.int y0)] (.int (0 : Int32)) := (fc4.other W7 (Ne.symm ne01))
    refine OEnd.go (g' := (mkF m 28 #[.val (.ref a0), .val (.ref a1), .val (.int (0 : Int32))] [])) st7 ?_
    refine OEnd.go (T' := T7) (g' := (mkF m 4 #[.val (.ref a0), .val (.ref a1), .val (.int (1 : Int32))] [(.ref a0), (.int (1 : Int32))])) (fun t k => ?_) ?_
    · show Steps p.tables e below (T7.setTop (mkF m 28 #[.val (.ref a0), .val (.ref a1), .val (.int (0 : Int32))] [])) t
      refine XS.iinc X7.here hx rfl (hb hby d1_28) rfl (l' := #[.val (.ref a0), .val (.ref a1), .val (.int (1 : Int32))]) rfl ?_
      show Steps p.tables e below (T7.setTop (mkF m 31 #[.val (.ref a0), .val (.ref a1), .val (.int (1 : Int32))] [])) t
      refine XS.goto X7.here hx rfl (pc0 := 31) (pc' := 2) rfl (hb hby d1_31) (by decide) (by decide) ?_
      show Steps p.tables e below (T7.setTop (mkF m 2 #[.val (.ref a0), .val (.ref a1), .val (.int (1 : Int32))] [])) t
      refine XS.iloadN X7.here hx rfl (hb hby d1_2) rfl ?_
      show Steps p.tables e below (T7.setTop (mkF m 3 #[.val (.ref a0), .val (.ref a1), .val (.int (1 : Int32))] [(.int (1 : Int32))])) t
      refine XS.aloadN X7.here hx rfl (hb hby d1_3) rfl rfl ?_
      show Steps p.tables e below (T7.setTop (mkF m 4 #[.val (.ref a0), .val (.ref a1), .val (.int (1 : Int32))] [(.ref a0), (.int (1 : Int32))])) t
      exact k
    obtain ⟨kc9, cl9, Ar9, q9, S9, M9, H9, G9⟩ := id V7
    refine OEnd.go (T' := T7) (g' := (mkF m 5 #[.val (.ref a0), .val (.ref a1), .val (.int (1 : Int32))] [(.int (1 : Int32)), (.int (1 : Int32))])) (fun t k => ?_) ?_
    · refine X7.arraylength hx (by rw [e7]; exact Ar9.1) (State.isArrayOf_alike hZ.alike Ar9.2.1) (g := (mkF m 4 #[.val (.ref a0), .val (.ref a1), .val (.int (1 : Int32))] [(.ref a0), (.int (1 : Int32))])) rfl rfl (hb hby d1_4) _ ?_
      rw [len_of S9 M9]
      exact k
    refine OEnd.go (T' := T7) (g' := (mkF m 35 #[.val (.ref a0), .val (.ref a1), .val (.int (1 : Int32))] [(.int (0 : Int32))])) (fun t k => ?_) ?_
    · show Steps p.tables e below (T7.setTop (mkF m 5 #[.val (.ref a0), .val (.ref a1), .val (.int (1 : Int32))] [(.int (1 : Int32)), (.int (1 : Int32))])) t
      refine XS.icmpYes X7.here hx rfl (pc0 := 5) (pc' := 34) rfl (hb hby d1_5) rfl (flt ((by decide))).2.1 (by decide) (by decide) ?_
      show Steps p.tables e below (T7.setTop (mkF m 34 #[.val (.ref a0), .val (.ref a1), .val (.int (1 : Int32))] [])) t
      refine XS.iconst X7.here hx rfl (hb hby d1_34) ?_
      show Steps p.tables e below (T7.setTop (mkF m 35 #[.val (.ref a0), .val (.ref a1), .val (.int (1 : Int32))] [(.int (0 : Int32))])) t
      exact k
    exact OEnd.nar X7 hx (t := .boolean) Bd.returns (by simp) hlk (hb hby d1_35) ⟨(congrArg (fun z => some (Value.int (nar .boolean z))) (own_symm (if_neg hc6))), N7, (own_at e7 (P := fun h => Keep h0 h [a0]) K7), (own_p (P := fun (z : Int32) => OArr Z _ a0 .int (1 : Int32) [(.int z)] (.int (0 : Int32))) (own_symm (if_neg hc6)) (own_at e7 (P := fun h => OArr Z h a0 .int (1 : Int32) [(.int (0 : Int32))] (.int (0 : Int32))) V7))⟩ (by decide) (by decide)
def f1_2 (x0 : Int32) (x1 : Int32) (y0 : Int32) (y1 : Int32) : Int32 := nar .boolean (if (x0 + (1 : Int32)) < y0 then (1 : Int32) else (if (x1 + (1 : Int32)) < y1 then (1 : Int32) else (0 : Int32)))
theorem ef_1_2 (m : MethodId) (x0 : Addr) (x1 : Addr) : entryFrame m #[(.ref x0), (.ref x1)] 3 = mkF m 0 #[.val (.ref x0), .val (.ref x1), .unset] [] := by first | (simp [entryFrame, mkF, argsToLocals, Value.category]; done) | rfl
def Q1_2 (Z : State) (a0 : Addr) (a1 : Addr) (x0 : Int32) (x1 : Int32) (y0 : Int32) (y1 : Int32) (h0 : Heap) (n0 : Nat) (v : Option Value) (h : Heap) (L : List Loc) : Prop := v = some (.int (f1_2 x0 x1 y0 y1)) ∧ Fr n0 L ∧ Keep h0 h [a0] ∧ OArr Z h a0 .int (2 : Int32) [(.int (if (x0 + (1 : Int32)) < y0 then (x0 + (1 : Int32)) else (0 : Int32))), (.int (if (x0 + (1 : Int32)) < y0 then x1 else (if (x1 + (1 : Int32)) < y1 then (x1 + (1 : Int32)) else (0 : Int32))))] (.int (0 : Int32))
set_option maxRecDepth 65536 in
set_option maxHeartbeats 40000000 in
theorem rm1_2 (l : Launch) (Z : State) (aZ : Array Value) (hw : ∀ d ∈ tables_1, d.before aZ Z = true) (ws : List Jvm.Cond) (a0 : Addr) (a1 : Addr) (x0 : Int32) (x1 : Int32) (y0 : Int32) (y1 : Int32) (h0 : Heap) (n0 : Nat) (Z0 : n0 ≤ h0.size) (A0 : OArr Z h0 a0 .int (2 : Int32) [(.int x0), (.int x1)] (.int (0 : Int32))) (A1 : OArr Z h0 a1 .int (2 : Int32) [(.int y0), (.int y1)] (.int (0 : Int32))) (ne01 : a0 ≠ a1) (g0 : n0 ≤ a0) :
    MetFree l (⟨"com/example/assentor/assentor/check/Odometer", "advance", "([I[I)Z"⟩ : MethodName) (head1 (Jvm.Cond.code (⟨"com/example/assentor/assentor/check/Odometer", "advance", "([I[I)Z"⟩ : MethodName) prog_15_method_2_code 3 (some .boolean) :: ws) ({ frames := 0, cells := 0, slots := 0, locals := 0 } : Room)) (fun a U => a = #[(.ref a0), (.ref a1)] ∧ Z.Warmed39 U.vm ∧ U.heap = h0) (fun _ _ _ _ _ => True) (fun _ U o U' => ∃ v L, o = .returned v ∧ Q1_2 Z a0 a1 x0 x1 y0 y1 h0 n0 v U'.heap L ∧ FrameEnd U o U' L ({ frames := 0, cells := 0, slots := 0, locals := 0 } : Room).cells ({ frames := 0, cells := 0, slots := 0, locals := 0 } : Room).slots) := by
  refine MetFree.of_bodySF (plainFor_of_name pn_com_example_assentor_assentor_check_Odometer) hisR ?_
  intro p e s m args below meth c s₁ Bd hml0 hP hK
  obtain ⟨rfl, hZ, hh⟩ := hP
  have hx := Bd.exec
  have hby := Bd.bytes
  have hlk : meth.locks = false := BodyLoose.notSynchronized Bd
  have hml : c.maxLocals = 3 := hml0
  have hown : s.vm.findClass "com/example/assentor/assentor/check/Odometer" = some m.cls := findClass_of_methodNamed Bd.named
  have hnm := (name_of_methodNamed Bd.named Bd.method).1
  have X0 : Stand p l e ({ frames := 0, cells := 0, slots := 0, locals := 0 } : Room) s m #[(.ref a0), (.ref a1)] below meth c s₁ [] 0 0 := Stand.of_body Bd
  have e0 : s₁.heap = h0 := by rw [← hh, Bd.state]; rfl
  have N0 := Fr.nil n0
  have K0 : Keep h0 h0 [a0] := Keep.refl _ _
  show OEnd p e below s s₁ (entryFrame m #[(.ref a0), (.ref a1)] 3) (Q1_2 Z a0 a1 x0 x1 y0 y1 h0 n0) ({ frames := 0, cells := 0, slots := 0, locals := 0 } : Room).cells ({ frames := 0, cells := 0, slots := 0, locals := 0 } : Room).slots
  refine OEnd.go (g' := (mkF m 0 #[.val (.ref a0), .val (.ref a1), .unset] [])) (fun _ k => castTop (ef_1_2 m a0 a1) k) ?_
  refine OEnd.go (T' := s₁) (g' := (mkF m 4 #[.val (.ref a0), .val (.ref a1), .val (.int (0 : Int32))] [(.ref a0), (.int (0 : Int32))])) (fun t k => ?_) ?_
  · show Steps p.tables e below (s₁.setTop (mkF m 0 #[.val (.ref a0), .val (.ref a1), .unset] [])) t
    refine XS.iconst X0.here hx rfl (hb hby d1_0) ?_
    show Steps p.tables e below (s₁.setTop (mkF m 1 #[.val (.ref a0), .val (.ref a1), .unset] [(.int (0 : Int32))])) t
    refine XS.istoreN X0.here hx rfl (hb hby d1_1) rfl (l' := #[.val (.ref a0), .val (.ref a1), .val (.int (0 : Int32))]) rfl ?_
    show Steps p.tables e below (s₁.setTop (mkF m 2 #[.val (.ref a0), .val (.ref a1), .val (.int (0 : Int32))] [])) t
    refine XS.iloadN X0.here hx rfl (hb hby d1_2) rfl ?_
    show Steps p.tables e below (s₁.setTop (mkF m 3 #[.val (.ref a0), .val (.ref a1), .val (.int (0 : Int32))] [(.int (0 : Int32))])) t
    refine XS.aloadN X0.here hx rfl (hb hby d1_3) rfl rfl ?_
    show Steps p.tables e below (s₁.setTop (mkF m 4 #[.val (.ref a0), .val (.ref a1), .val (.int (0 : Int32))] [(.ref a0), (.int (0 : Int32))])) t
    exact k
  obtain ⟨kc1, cl1, Ar1, q1, S1, M1, H1, G1⟩ := id A0
  refine OEnd.go (T' := s₁) (g' := (mkF m 5 #[.val (.ref a0), .val (.ref a1), .val (.int (0 : Int32))] [(.int (2 : Int32)), (.int (0 : Int32))])) (fun t k => ?_) ?_
  · refine X0.arraylength hx (by rw [e0]; exact Ar1.1) (State.isArrayOf_alike hZ.alike Ar1.2.1) (g := (mkF m 4 #[.val (.ref a0), .val (.ref a1), .val (.int (0 : Int32))] [(.ref a0), (.int (0 : Int32))])) rfl rfl (hb hby d1_4) _ ?_
    rw [len_of S1 M1]
    exact k
  refine OEnd.go (T' := s₁) (g' := (mkF m 11 #[.val (.ref a0), .val (.ref a1), .val (.int (0 : Int32))] [(.int (0 : Int32)), (.ref a0), (.int (0 : Int32)), (.ref a0)])) (fun t k => ?_) ?_
  · show Steps p.tables e below (s₁.setTop (mkF m 5 #[.val (.ref a0), .val (.ref a1), .val (.int (0 : Int32))] [(.int (2 : Int32)), (.int (0 : Int32))])) t
    refine XS.icmpNo X0.here hx rfl (hb hby d1_5) rfl (tlt ((by decide))).2.1 ?_
    show Steps p.tables e below (s₁.setTop (mkF m 8 #[.val (.ref a0), .val (.ref a1), .val (.int (0 : Int32))] [])) t
    refine XS.aloadN X0.here hx rfl (hb hby d1_8) rfl rfl ?_
    show Steps p.tables e below (s₁.setTop (mkF m 9 #[.val (.ref a0), .val (.ref a1), .val (.int (0 : Int32))] [(.ref a0)])) t
    refine XS.iloadN X0.here hx rfl (hb hby d1_9) rfl ?_
    show Steps p.tables e below (s₁.setTop (mkF m 10 #[.val (.ref a0), .val (.ref a1), .val (.int (0 : Int32))] [(.int (0 : Int32)), (.ref a0)])) t
    jvm_step X0.here [X0.here.top, hx, (hb hby d1_10), Value.category]
    show Steps p.tables e below (s₁.setTop (mkF m 11 #[.val (.ref a0), .val (.ref a1), .val (.int (0 : Int32))] [(.int (0 : Int32)), (.ref a0), (.int (0 : Int32)), (.ref a0)])) t
    exact k
  obtain ⟨kc2, cl2, Ar2, q2, S2, M2, H2, G2⟩ := id A0
  have hin2 : ¬ ((0 : Int32) < 0 ∨ cl2.slots.size ≤ ((0 : Int32)).toNatClampNeg) := inb_of S2 ⟨by decide, by decide⟩
  have hat2 : cl2.slots[((0 : Int32)).toNatClampNeg]? = some (.int x0) := Has.at H2 hin2 rfl
  refine OEnd.go (T' := s₁) (g' := (mkF m 12 #[.val (.ref a0), .val (.ref a1), .val (.int (0 : Int32))] [(.int x0), (.int (0 : Int32)), (.ref a0)])) (fun t k => ?_) ?_
  · refine X0.iaload hx (j := (0 : Int32)) (v := (.int x0)) (by rw [e0]; exact Ar2.1) (State.isArrayOf_alike hZ.alike Ar2.2.1) Ar2.2.2 hin2 hat2 (g := (mkF m 11 #[.val (.ref a0), .val (.ref a1), .val (.int (0 : Int32))] [(.int (0 : Int32)), (.ref a0), (.int (0 : Int32)), (.ref a0)])) rfl rfl (hb hby d1_11) _ ?_
    exact k
  refine OEnd.go (T' := s₁) (g' := (mkF m 15 #[.val (.ref a0), .val (.ref a1), .val (.int (0 : Int32))] [(.int (x0 + (1 : Int32))), (.int (0 : Int32)), (.ref a0), (.int (x0 + (1 : Int32)))])) (fun t k => ?_) ?_
  · show Steps p.tables e below (s₁.setTop (mkF m 12 #[.val (.ref a0), .val (.ref a1), .val (.int (0 : Int32))] [(.int x0), (.int (0 : Int32)), (.ref a0)])) t
    refine XS.iconst X0.here hx rfl (hb hby d1_12) ?_
    show Steps p.tables e below (s₁.setTop (mkF m 13 #[.val (.ref a0), .val (.ref a1), .val (.int (0 : Int32))] [(.int (1 : Int32)), (.int x0), (.int (0 : Int32)), (.ref a0)])) t
    refine XS.iadd X0.here hx rfl (hb hby d1_13) rfl ?_
    show Steps p.tables e below (s₁.setTop (mkF m 14 #[.val (.ref a0), .val (.ref a1), .val (.int (0 : Int32))] [(.int (x0 + (1 : Int32))), (.int (0 : Int32)), (.ref a0)])) t
    jvm_step X0.here [X0.here.top, hx, (hb hby d1_14), Value.category]
    show Steps p.tables e below (s₁.setTop (mkF m 15 #[.val (.ref a0), .val (.ref a1), .val (.int (0 : Int32))] [(.int (x0 + (1 : Int32))), (.int (0 : Int32)), (.ref a0), (.int (x0 + (1 : Int32)))])) t
    exact k
  obtain ⟨kc3, cl3, Ar3, q3, S3, M3, H3, G3⟩ := id A0
  have hin3 : ¬ ((0 : Int32) < 0 ∨ cl3.slots.size ≤ ((0 : Int32)).toNatClampNeg) := inb_of S3 ⟨by decide, by decide⟩
  obtain ⟨T3, h3, X3, e3, W3, st3⟩ := stI X0 hx hZ e0 Ar3 (j := (0 : Int32)) hin3 (g := (mkF m 15 #[.val (.ref a0), .val (.ref a1), .val (.int (0 : Int32))] [(.int (x0 + (1 : Int32))), (.int (0 : Int32)), (.ref a0), (.int (x0 + (1 : Int32)))])) rfl rfl (hb hby d1_15)
  have N3 := Fr.snoc X3 N0 g0
  have Z3 : n0 ≤ h3.size := Nat.le_trans Z0 (Keep.of_wr W3).1
  have K3 : Keep h0 h3 [a0] := K0.wr W3 (Or.inl (List.mem_of_getElem? (i := 0) rfl))
  have V3 : OArr Z h3 a0 .int (2 : Int32) [(.int (x0 + (1 : Int32))), (.int x1)] (.int (0 : Int32)) := ⟨_, Arv.set Ar3 q3 S3 M3 H3 G3 rfl W3 0 rfl (Nat.le_of_ble_eq_true rfl)⟩
  have fc4 : OArr Z h3 a1 .int (2 : Int32) [(.int y0), (.int y1)] (.int (0 : Int32)) := (A1.other W3 (Ne.symm ne01))
  refine OEnd.go (g' := (mkF m 16 #[.val (.ref a0), .val (.ref a1), .val (.int (0 : Int32))] [(.int (x0 + (1 : Int32)))])) st3 ?_
  refine OEnd.go (T' := T3) (g' := (mkF m 18 #[.val (.ref a0), .val (.ref a1), .val (.int (0 : Int32))] [(.int (0 : Int32)), (.ref a1), (.int (x0 + (1 : Int32)))])) (fun t k => ?_) ?_
  · show Steps p.tables e below (T3.setTop (mkF m 16 #[.val (.ref a0), .val (.ref a1), .val (.int (0 : Int32))] [(.int (x0 + (1 : Int32)))])) t
    refine XS.aloadN X3.here hx rfl (hb hby d1_16) rfl rfl ?_
    show Steps p.tables e below (T3.setTop (mkF m 17 #[.val (.ref a0), .val (.ref a1), .val (.int (0 : Int32))] [(.ref a1), (.int (x0 + (1 : Int32)))])) t
    refine XS.iloadN X3.here hx rfl (hb hby d1_17) rfl ?_
    show Steps p.tables e below (T3.setTop (mkF m 18 #[.val (.ref a0), .val (.ref a1), .val (.int (0 : Int32))] [(.int (0 : Int32)), (.ref a1), (.int (x0 + (1 : Int32)))])) t
    exact k
  obtain ⟨kc5, cl5, Ar5, q5, S5, M5, H5, G5⟩ := id fc4
  have hin5 : ¬ ((0 : Int32) < 0 ∨ cl5.slots.size ≤ ((0 : Int32)).toNatClampNeg) := inb_of S5 ⟨by decide, by decide⟩
  have hat5 : cl5.slots[((0 : Int32)).toNatClampNeg]? = some (.int y0) := Has.at H5 hin5 rfl
  refine OEnd.go (T' := T3) (g' := (mkF m 19 #[.val (.ref a0), .val (.ref a1), .val (.int (0 : Int32))] [(.int y0), (.int (x0 + (1 : Int32)))])) (fun t k => ?_) ?_
  · refine X3.iaload hx (j := (0 : Int32)) (v := (.int y0)) (by rw [e3]; exact Ar5.1) (State.isArrayOf_alike hZ.alike Ar5.2.1) Ar5.2.2 hin5 hat5 (g := (mkF m 18 #[.val (.ref a0), .val (.ref a1), .val (.int (0 : Int32))] [(.int (0 : Int32)), (.ref a1), (.int (x0 + (1 : Int32)))])) rfl rfl (hb hby d1_18) _ ?_
    exact k
  by_cases hc6 : (x0 + (1 : Int32)) < y0
  · skip
    refine OEnd.go (T' := T3) (g' := (mkF m 22 #[.val (.ref a0), .val (.ref a1), .val (.int (0 : Int32))] [])) (fun t k => ?_) ?_
    · show Steps p.tables e below (T3.setTop (mkF m 19 #[.val (.ref a0), .val (.ref a1), .val (.int (0 : Int32))] [(.int y0), (.int (x0 + (1 : Int32)))])) t
      refine XS.icmpNo X3.here hx rfl (hb hby d1_19) rfl (tlt (hc6)).2.1 ?_
      show Steps p.tables e below (T3.setTop (mkF m 22 #[.val (.ref a0), .val (.ref a1), .val (.int (0 : Int32))] [])) t
      exact k
    refine OEnd.go (T' := T3) (g' := (mkF m 23 #[.val (.ref a0), .val (.ref a1), .val (.int (0 : Int32))] [(.int (1 : Int32))])) (fun t k => ?_) ?_
    · show Steps p.tables e below (T3.setTop (mkF m 22 #[.val (.ref a0), .val (.ref a1), .val (.int (0 : Int32))] [])) t
      refine XS.iconst X3.here hx rfl (hb hby d1_22) ?_
      show Steps p.tables e below (T3.setTop (mkF m 23 #[.val (.ref a0), .val (.ref a1), .val (.int (0 : Int32))] [(.int (1 : Int32))])) t
      exact k
    exact OEnd.nar X3 hx (t := .boolean) Bd.returns (by simp) hlk (hb hby d1_23) ⟨(congrArg (fun z => some (Value.int (nar .boolean z))) (own_symm (if_pos hc6))), N3, (own_at e3 (P := fun h => Keep h0 h [a0]) K3), (own_p (P := fun (z : Int32) => OArr Z _ a0 .int (2 : Int32) [(.int (if (x0 + (1 : Int32)) < y0 then (x0 + (1 : Int32)) else (0 : Int32))), (.int z)] (.int (0 : Int32))) (own_symm (if_pos hc6)) (own_p (P := fun (z : Int32) => OArr Z _ a0 .int (2 : Int32) [(.int z), (.int x1)] (.int (0 : Int32))) (own_symm (if_pos hc6)) (own_at e3 (P := fun h => OArr Z h a0 .int (2 : Int32) [(.int (x0 + (1 : Int32))), (.int x1)] (.int (0 : Int32))) V3)))⟩ (by decide) (by decide)
  · skip
    refine OEnd.go (T' := T3) (g' := (mkF m 24 #[.val (.ref a0), .val (.ref a1), .val (.int (0 : Int32))] [])) (fun t k => ?_) ?_
    · show Steps p.tables e below (T3.setTop (mkF m 19 #[.val (.ref a0), .val (.ref a1), .val (.int (0 : Int32))] [(.int y0), (.int (x0 + (1 : Int32)))])) t
      refine XS.icmpYes X3.here hx rfl (pc0 := 19) (pc' := 24) rfl (hb hby d1_19) rfl (flt (hc6)).2.1 (by decide) (by decide) ?_
      show Steps p.tables e below (T3.setTop (mkF m 24 #[.val (.ref a0), .val (.ref a1), .val (.int (0 : Int32))] [])) t
      exact k
    refine OEnd.go (T' := T3) (g' := (mkF m 27 #[.val (.ref a0), .val (.ref a1), .val (.int (0 : Int32))] [(.int (0 : Int32)), (.int (0 : Int32)), (.ref a0)])) (fun t k => ?_) ?_
    · show Steps p.tables e below (T3.setTop (mkF m 24 #[.val (.ref a0), .val (.ref a1), .val (.int (0 : Int32))] [])) t
      refine XS.aloadN X3.here hx rfl (hb hby d1_24) rfl rfl ?_
      show Steps p.tables e below (T3.setTop (mkF m 25 #[.val (.ref a0), .val (.ref a1), .val (.int (0 : Int32))] [(.ref a0)])) t
      refine XS.iloadN X3.here hx rfl (hb hby d1_25) rfl ?_
      show Steps p.tables e below (T3.setTop (mkF m 26 #[.val (.ref a0), .val (.ref a1), .val (.int (0 : Int32))] [(.int (0 : Int32)), (.ref a0)])) t
      refine XS.iconst X3.here hx rfl (hb hby d1_26) ?_
      show Steps p.tables e below (T3.setTop (mkF m 27 #[.val (.ref a0), .val (.ref a1), .val (.int (0 : Int32))] [(.int (0 : Int32)), (.int (0 : Int32)), (.ref a0)])) t
      exact k
    obtain ⟨kc7, cl7, Ar7, q7, S7, M7, H7, G7⟩ := id V3
    have hin7 : ¬ ((0 : Int32) < 0 ∨ cl7.slots.size ≤ ((0 : Int32)).toNatClampNeg) := inb_of S7 ⟨by decide, by decide⟩
    obtain ⟨T7, h7, X7, e7, W7, st7⟩ := stI X3 hx hZ e3 Ar7 (j := (0 : Int32)) hin7 (g := (mkF m 27 #[.val (.ref a0), .val (.ref a1), .val (.int (0 : Int32))] [(.int (0 : Int32)), (.int (0 : Int32)), (.ref a0)])) rfl rfl (hb hby d1_27)
    have N7 := Fr.snoc X7 N3 g0
    have Z7 : n0 ≤ h7.size := Nat.le_trans Z3 (Keep.of_wr W7).1
    have K7 : Keep h0 h7 [a0] := K3.wr W7 (Or.inl (List.mem_of_getElem? (i := 0) rfl))
    have V7 : OArr Z h7 a0 .int (2 : Int32) [(.int (0 : Int32)), (.int x1)] (.int (0 : Int32)) := ⟨_, Arv.set Ar7 q7 S7 M7 H7 G7 rfl W7 0 rfl (Nat.le_of_ble_eq_true rfl)⟩
    have fc8 : OArr Z h7 a1 .int (2 : Int32) [(.int y0), (.int y1)] (.int (0 : Int32)) := (fc4.other W7 (Ne.symm ne01))
    refine OEnd.go (g' := (mkF m 28 #[.val (.ref a0), .val (.ref a1), .val (.int (0 : Int32))] [])) st7 ?_
    refine OEnd.go (T' := T7) (g' := (mkF m 4 #[.val (.ref a0), .val (.ref a1), .val (.int (1 : Int32))] [(.ref a0), (.int (1 : Int32))])) (fun t k => ?_) ?_
    · show Steps p.tables e below (T7.setTop (mkF m 28 #[.val (.ref a0), .val (.ref a1), .val (.int (0 : Int32))] [])) t
      refine XS.iinc X7.here hx rfl (hb hby d1_28) rfl (l' := #[.val (.ref a0), .val (.ref a1), .val (.int (1 : Int32))]) rfl ?_
      show Steps p.tables e below (T7.setTop (mkF m 31 #[.val (.ref a0), .val (.ref a1), .val (.int (1 : Int32))] [])) t
      refine XS.goto X7.here hx rfl (pc0 := 31) (pc' := 2) rfl (hb hby d1_31) (by decide) (by decide) ?_
      show Steps p.tables e below (T7.setTop (mkF m 2 #[.val (.ref a0), .val (.ref a1), .val (.int (1 : Int32))] [])) t
      refine XS.iloadN X7.here hx rfl (hb hby d1_2) rfl ?_
      show Steps p.tables e below (T7.setTop (mkF m 3 #[.val (.ref a0), .val (.ref a1), .val (.int (1 : Int32))] [(.int (1 : Int32))])) t
      refine XS.aloadN X7.here hx rfl (hb hby d1_3) rfl rfl ?_
      show Steps p.tables e below (T7.setTop (mkF m 4 #[.val (.ref a0), .val (.ref a1), .val (.int (1 : Int32))] [(.ref a0), (.int (1 : Int32))])) t
      exact k
    obtain ⟨kc9, cl9, Ar9, q9, S9, M9, H9, G9⟩ := id V7
    refine OEnd.go (T' := T7) (g' := (mkF m 5 #[.val (.ref a0), .val (.ref a1), .val (.int (1 : Int32))] [(.int (2 : Int32)), (.int (1 : Int32))])) (fun t k => ?_) ?_
    · refine X7.arraylength hx (by rw [e7]; exact Ar9.1) (State.isArrayOf_alike hZ.alike Ar9.2.1) (g := (mkF m 4 #[.val (.ref a0), .val (.ref a1), .val (.int (1 : Int32))] [(.ref a0), (.int (1 : Int32))])) rfl rfl (hb hby d1_4) _ ?_
      rw [len_of S9 M9]
      exact k
    refine OEnd.go (T' := T7) (g' := (mkF m 11 #[.val (.ref a0), .val (.ref a1), .val (.int (1 : Int32))] [(.int (1 : Int32)), (.ref a0), (.int (1 : Int32)), (.ref a0)])) (fun t k => ?_) ?_
    · show Steps p.tables e below (T7.setTop (mkF m 5 #[.val (.ref a0), .val (.ref a1), .val (.int (1 : Int32))] [(.int (2 : Int32)), (.int (1 : Int32))])) t
      refine XS.icmpNo X7.here hx rfl (hb hby d1_5) rfl (tlt ((by decide))).2.1 ?_
      show Steps p.tables e below (T7.setTop (mkF m 8 #[.val (.ref a0), .val (.ref a1), .val (.int (1 : Int32))] [])) t
      refine XS.aloadN X7.here hx rfl (hb hby d1_8) rfl rfl ?_
      show Steps p.tables e below (T7.setTop (mkF m 9 #[.val (.ref a0), .val (.ref a1), .val (.int (1 : Int32))] [(.ref a0)])) t
      refine XS.iloadN X7.here hx rfl (hb hby d1_9) rfl ?_
      show Steps p.tables e below (T7.setTop (mkF m 10 #[.val (.ref a0), .val (.ref a1), .val (.int (1 : Int32))] [(.int (1 : Int32)), (.ref a0)])) t
      jvm_step X7.here [X7.here.top, hx, (hb hby d1_10), Value.category]
      show Steps p.tables e below (T7.setTop (mkF m 11 #[.val (.ref a0), .val (.ref a1), .val (.int (1 : Int32))] [(.int (1 : Int32)), (.ref a0), (.int (1 : Int32)), (.ref a0)])) t
      exact k
    obtain ⟨kc10, cl10, Ar10, q10, S10, M10, H10, G10⟩ := id V7
    have hin10 : ¬ ((1 : Int32) < 0 ∨ cl10.slots.size ≤ ((1 : Int32)).toNatClampNeg) := inb_of S10 ⟨by decide, by decide⟩
    have hat10 : cl10.slots[((1 : Int32)).toNatClampNeg]? = some (.int x1) := Has.at H10 hin10 rfl
    refine OEnd.go (T' := T7) (g' := (mkF m 12 #[.val (.ref a0), .val (.ref a1), .val (.int (1 : Int32))] [(.int x1), (.int (1 : Int32)), (.ref a0)])) (fun t k => ?_) ?_
    · refine X7.iaload hx (j := (1 : Int32)) (v := (.int x1)) (by rw [e7]; exact Ar10.1) (State.isArrayOf_alike hZ.alike Ar10.2.1) Ar10.2.2 hin10 hat10 (g := (mkF m 11 #[.val (.ref a0), .val (.ref a1), .val (.int (1 : Int32))] [(.int (1 : Int32)), (.ref a0), (.int (1 : Int32)), (.ref a0)])) rfl rfl (hb hby d1_11) _ ?_
      exact k
    refine OEnd.go (T' := T7) (g' := (mkF m 15 #[.val (.ref a0), .val (.ref a1), .val (.int (1 : Int32))] [(.int (x1 + (1 : Int32))), (.int (1 : Int32)), (.ref a0), (.int (x1 + (1 : Int32)))])) (fun t k => ?_) ?_
    · show Steps p.tables e below (T7.setTop (mkF m 12 #[.val (.ref a0), .val (.ref a1), .val (.int (1 : Int32))] [(.int x1), (.int (1 : Int32)), (.ref a0)])) t
      refine XS.iconst X7.here hx rfl (hb hby d1_12) ?_
      show Steps p.tables e below (T7.setTop (mkF m 13 #[.val (.ref a0), .val (.ref a1), .val (.int (1 : Int32))] [(.int (1 : Int32)), (.int x1), (.int (1 : Int32)), (.ref a0)])) t
      refine XS.iadd X7.here hx rfl (hb hby d1_13) rfl ?_
      show Steps p.tables e below (T7.setTop (mkF m 14 #[.val (.ref a0), .val (.ref a1), .val (.int (1 : Int32))] [(.int (x1 + (1 : Int32))), (.int (1 : Int32)), (.ref a0)])) t
      jvm_step X7.here [X7.here.top, hx, (hb hby d1_14), Value.category]
      show Steps p.tables e below (T7.setTop (mkF m 15 #[.val (.ref a0), .val (.ref a1), .val (.int (1 : Int32))] [(.int (x1 + (1 : Int32))), (.int (1 : Int32)), (.ref a0), (.int (x1 + (1 : Int32)))])) t
      exact k
    obtain ⟨kc11, cl11, Ar11, q11, S11, M11, H11, G11⟩ := id V7
    have hin11 : ¬ ((1 : Int32) < 0 ∨ cl11.slots.size ≤ ((1 : Int32)).toNatClampNeg) := inb_of S11 ⟨by decide, by decide⟩
    obtain ⟨T11, h11, X11, e11, W11, st11⟩ := stI X7 hx hZ e7 Ar11 (j := (1 : Int32)) hin11 (g := (mkF m 15 #[.val (.ref a0), .val (.ref a1), .val (.int (1 : Int32))] [(.int (x1 + (1 : Int32))), (.int (1 : Int32)), (.ref a0), (.int (x1 + (1 : Int32)))])) rfl rfl (hb hby d1_15)
    have N11 := Fr.snoc X11 N7 g0
    have Z11 : n0 ≤ h11.size := Nat.le_trans Z7 (Keep.of_wr W11).1
    have K11 : Keep h0 h11 [a0] := K7.wr W11 (Or.inl (List.mem_of_getElem? (i := 0) rfl))
    have V11 : OArr Z h11 a0 .int (2 : Int32) [(.int (0 : Int32)), (.int (x1 + (1 : Int32)))] (.int (0 : Int32)) := ⟨_, Arv.set Ar11 q11 S11 M11 H11 G11 rfl W11 1 rfl (Nat.le_of_ble_eq_true rfl)⟩
    have fc12 : OArr Z h11 a1 .int (2 : Int32) [(.int y0), (.int y1)] (.int (0 : Int32)) := (fc8.other W11 (Ne.symm ne01))
    refine OEnd.go (g' := (mkF m 16 #[.val (.ref a0), .val (.ref a1), .val (.int (1 : Int32))] [(.int (x1 + (1 : Int32)))])) st11 ?_
    refine OEnd.go (T' := T11) (g' := (mkF m 18 #[.val (.ref a0), .val (.ref a1), .val (.int (1 : Int32))] [(.int (1 : Int32)), (.ref a1), (.int (x1 + (1 : Int32)))])) (fun t k => ?_) ?_
    · show Steps p.tables e below (T11.setTop (mkF m 16 #[.val (.ref a0), .val (.ref a1), .val (.int (1 : Int32))] [(.int (x1 + (1 : Int32)))])) t
      refine XS.aloadN X11.here hx rfl (hb hby d1_16) rfl rfl ?_
      show Steps p.tables e below (T11.setTop (mkF m 17 #[.val (.ref a0), .val (.ref a1), .val (.int (1 : Int32))] [(.ref a1), (.int (x1 + (1 : Int32)))])) t
      refine XS.iloadN X11.here hx rfl (hb hby d1_17) rfl ?_
      show Steps p.tables e below (T11.setTop (mkF m 18 #[.val (.ref a0), .val (.ref a1), .val (.int (1 : Int32))] [(.int (1 : Int32)), (.ref a1), (.int (x1 + (1 : Int32)))])) t
      exact k
    obtain ⟨kc13, cl13, Ar13, q13, S13, M13, H13, G13⟩ := id fc12
    have hin13 : ¬ ((1 : Int32) < 0 ∨ cl13.slots.size ≤ ((1 : Int32)).toNatClampNeg) := inb_of S13 ⟨by decide, by decide⟩
    have hat13 : cl13.slots[((1 : Int32)).toNatClampNeg]? = some (.int y1) := Has.at H13 hin13 rfl
    refine OEnd.go (T' := T11) (g' := (mkF m 19 #[.val (.ref a0), .val (.ref a1), .val (.int (1 : Int32))] [(.int y1), (.int (x1 + (1 : Int32)))])) (fun t k => ?_) ?_
    · refine X11.iaload hx (j := (1 : Int32)) (v := (.int y1)) (by rw [e11]; exact Ar13.1) (State.isArrayOf_alike hZ.alike Ar13.2.1) Ar13.2.2 hin13 hat13 (g := (mkF m 18 #[.val (.ref a0), .val (.ref a1), .val (.int (1 : Int32))] [(.int (1 : Int32)), (.ref a1), (.int (x1 + (1 : Int32)))])) rfl rfl (hb hby d1_18) _ ?_
      exact k
    by_cases hc14 : (x1 + (1 : Int32)) < y1
    · skip
      refine OEnd.go (T' := T11) (g' := (mkF m 22 #[.val (.ref a0), .val (.ref a1), .val (.int (1 : Int32))] [])) (fun t k => ?_) ?_
      · show Steps p.tables e below (T11.setTop (mkF m 19 #[.val (.ref a0), .val (.ref a1), .val (.int (1 : Int32))] [(.int y1), (.int (x1 + (1 : Int32)))])) t
        refine XS.icmpNo X11.here hx rfl (hb hby d1_19) rfl (tlt (hc14)).2.1 ?_
        show Steps p.tables e below (T11.setTop (mkF m 22 #[.val (.ref a0), .val (.ref a1), .val (.int (1 : Int32))] [])) t
        exact k
      refine OEnd.go (T' := T11) (g' := (mkF m 23 #[.val (.ref a0), .val (.ref a1), .val (.int (1 : Int32))] [(.int (1 : Int32))])) (fun t k => ?_) ?_
      · show Steps p.tables e below (T11.setTop (mkF m 22 #[.val (.ref a0), .val (.ref a1), .val (.int (1 : Int32))] [])) t
        refine XS.iconst X11.here hx rfl (hb hby d1_22) ?_
        show Steps p.tables e below (T11.setTop (mkF m 23 #[.val (.ref a0), .val (.ref a1), .val (.int (1 : Int32))] [(.int (1 : Int32))])) t
        exact k
      exact OEnd.nar X11 hx (t := .boolean) Bd.returns (by simp) hlk (hb hby d1_23) ⟨(congrArg (fun z => some (Value.int (nar .boolean z))) (own_symm ((if_neg hc6).trans (if_pos hc14)))), N11, (own_at e11 (P := fun h => Keep h0 h [a0]) K11), (own_p (P := fun (z : Int32) => OArr Z _ a0 .int (2 : Int32) [(.int (if (x0 + (1 : Int32)) < y0 then (x0 + (1 : Int32)) else (0 : Int32))), (.int z)] (.int (0 : Int32))) (own_symm ((if_neg hc6).trans (if_pos hc14))) (own_p (P := fun (z : Int32) => OArr Z _ a0 .int (2 : Int32) [(.int z), (.int (x1 + (1 : Int32)))] (.int (0 : Int32))) (own_symm (if_neg hc6)) (own_at e11 (P := fun h => OArr Z h a0 .int (2 : Int32) [(.int (0 : Int32)), (.int (x1 + (1 : Int32)))] (.int (0 : Int32))) V11)))⟩ (by decide) (by decide)
    · skip
      refine OEnd.go (T' := T11) (g' := (mkF m 24 #[.val (.ref a0), .val (.ref a1), .val (.int (1 : Int32))] [])) (fun t k => ?_) ?_
      · show Steps p.tables e below (T11.setTop (mkF m 19 #[.val (.ref a0), .val (.ref a1), .val (.int (1 : Int32))] [(.int y1), (.int (x1 + (1 : Int32)))])) t
        refine XS.icmpYes X11.here hx rfl (pc0 := 19) (pc' := 24) rfl (hb hby d1_19) rfl (flt (hc14)).2.1 (by decide) (by decide) ?_
        show Steps p.tables e below (T11.setTop (mkF m 24 #[.val (.ref a0), .val (.ref a1), .val (.int (1 : Int32))] [])) t
        exact k
      refine OEnd.go (T' := T11) (g' := (mkF m 27 #[.val (.ref a0), .val (.ref a1), .val (.int (1 : Int32))] [(.int (0 : Int32)), (.int (1 : Int32)), (.ref a0)])) (fun t k => ?_) ?_
      · show Steps p.tables e below (T11.setTop (mkF m 24 #[.val (.ref a0), .val (.ref a1), .val (.int (1 : Int32))] [])) t
        refine XS.aloadN X11.here hx rfl (hb hby d1_24) rfl rfl ?_
        show Steps p.tables e below (T11.setTop (mkF m 25 #[.val (.ref a0), .val (.ref a1), .val (.int (1 : Int32))] [(.ref a0)])) t
        refine XS.iloadN X11.here hx rfl (hb hby d1_25) rfl ?_
        show Steps p.tables e below (T11.setTop (mkF m 26 #[.val (.ref a0), .val (.ref a1), .val (.int (1 : Int32))] [(.int (1 : Int32)), (.ref a0)])) t
        refine XS.iconst X11.here hx rfl (hb hby d1_26) ?_
        show Steps p.tables e below (T11.setTop (mkF m 27 #[.val (.ref a0), .val (.ref a1), .val (.int (1 : Int32))] [(.int (0 : Int32)), (.int (1 : Int32)), (.ref a0)])) t
        exact k
      obtain ⟨kc15, cl15, Ar15, q15, S15, M15, H15, G15⟩ := id V11
      have hin15 : ¬ ((1 : Int32) < 0 ∨ cl15.slots.size ≤ ((1 : Int32)).toNatClampNeg) := inb_of S15 ⟨by decide, by decide⟩
      obtain ⟨T15, h15, X15, e15, W15, st15⟩ := stI X11 hx hZ e11 Ar15 (j := (1 : Int32)) hin15 (g := (mkF m 27 #[.val (.ref a0), .val (.ref a1), .val (.int (1 : Int32))] [(.int (0 : Int32)), (.int (1 : Int32)), (.ref a0)])) rfl rfl (hb hby d1_27)
      have N15 := Fr.snoc X15 N11 g0
      have Z15 : n0 ≤ h15.size := Nat.le_trans Z11 (Keep.of_wr W15).1
      have K15 : Keep h0 h15 [a0] := K11.wr W15 (Or.inl (List.mem_of_getElem? (i := 0) rfl))
      have V15 : OArr Z h15 a0 .int (2 : Int32) [(.int (0 : Int32)), (.int (0 : Int32))] (.int (0 : Int32)) := ⟨_, Arv.set Ar15 q15 S15 M15 H15 G15 rfl W15 1 rfl (Nat.le_of_ble_eq_true rfl)⟩
      have fc16 : OArr Z h15 a1 .int (2 : Int32) [(.int y0), (.int y1)] (.int (0 : Int32)) := (fc12.other W15 (Ne.symm ne01))
      refine OEnd.go (g' := (mkF m 28 #[.val (.ref a0), .val (.ref a1), .val (.int (1 : Int32))] [])) st15 ?_
      refine OEnd.go (T' := T15) (g' := (mkF m 4 #[.val (.ref a0), .val (.ref a1), .val (.int (2 : Int32))] [(.ref a0), (.int (2 : Int32))])) (fun t k => ?_) ?_
      · show Steps p.tables e below (T15.setTop (mkF m 28 #[.val (.ref a0), .val (.ref a1), .val (.int (1 : Int32))] [])) t
        refine XS.iinc X15.here hx rfl (hb hby d1_28) rfl (l' := #[.val (.ref a0), .val (.ref a1), .val (.int (2 : Int32))]) rfl ?_
        show Steps p.tables e below (T15.setTop (mkF m 31 #[.val (.ref a0), .val (.ref a1), .val (.int (2 : Int32))] [])) t
        refine XS.goto X15.here hx rfl (pc0 := 31) (pc' := 2) rfl (hb hby d1_31) (by decide) (by decide) ?_
        show Steps p.tables e below (T15.setTop (mkF m 2 #[.val (.ref a0), .val (.ref a1), .val (.int (2 : Int32))] [])) t
        refine XS.iloadN X15.here hx rfl (hb hby d1_2) rfl ?_
        show Steps p.tables e below (T15.setTop (mkF m 3 #[.val (.ref a0), .val (.ref a1), .val (.int (2 : Int32))] [(.int (2 : Int32))])) t
        refine XS.aloadN X15.here hx rfl (hb hby d1_3) rfl rfl ?_
        show Steps p.tables e below (T15.setTop (mkF m 4 #[.val (.ref a0), .val (.ref a1), .val (.int (2 : Int32))] [(.ref a0), (.int (2 : Int32))])) t
        exact k
      obtain ⟨kc17, cl17, Ar17, q17, S17, M17, H17, G17⟩ := id V15
      refine OEnd.go (T' := T15) (g' := (mkF m 5 #[.val (.ref a0), .val (.ref a1), .val (.int (2 : Int32))] [(.int (2 : Int32)), (.int (2 : Int32))])) (fun t k => ?_) ?_
      · refine X15.arraylength hx (by rw [e15]; exact Ar17.1) (State.isArrayOf_alike hZ.alike Ar17.2.1) (g := (mkF m 4 #[.val (.ref a0), .val (.ref a1), .val (.int (2 : Int32))] [(.ref a0), (.int (2 : Int32))])) rfl rfl (hb hby d1_4) _ ?_
        rw [len_of S17 M17]
        exact k
      refine OEnd.go (T' := T15) (g' := (mkF m 35 #[.val (.ref a0), .val (.ref a1), .val (.int (2 : Int32))] [(.int (0 : Int32))])) (fun t k => ?_) ?_
      · show Steps p.tables e below (T15.setTop (mkF m 5 #[.val (.ref a0), .val (.ref a1), .val (.int (2 : Int32))] [(.int (2 : Int32)), (.int (2 : Int32))])) t
        refine XS.icmpYes X15.here hx rfl (pc0 := 5) (pc' := 34) rfl (hb hby d1_5) rfl (flt ((by decide))).2.1 (by decide) (by decide) ?_
        show Steps p.tables e below (T15.setTop (mkF m 34 #[.val (.ref a0), .val (.ref a1), .val (.int (2 : Int32))] [])) t
        refine XS.iconst X15.here hx rfl (hb hby d1_34) ?_
        show Steps p.tables e below (T15.setTop (mkF m 35 #[.val (.ref a0), .val (.ref a1), .val (.int (2 : Int32))] [(.int (0 : Int32))])) t
        exact k
      exact OEnd.nar X15 hx (t := .boolean) Bd.returns (by simp) hlk (hb hby d1_35) ⟨(congrArg (fun z => some (Value.int (nar .boolean z))) (own_symm ((if_neg hc6).trans (if_neg hc14)))), N15, (own_at e15 (P := fun h => Keep h0 h [a0]) K15), (own_p (P := fun (z : Int32) => OArr Z _ a0 .int (2 : Int32) [(.int (if (x0 + (1 : Int32)) < y0 then (x0 + (1 : Int32)) else (0 : Int32))), (.int z)] (.int (0 : Int32))) (own_symm ((if_neg hc6).trans (if_neg hc14))) (own_p (P := fun (z : Int32) => OArr Z _ a0 .int (2 : Int32) [(.int z), (.int (0 : Int32))] (.int (0 : Int32))) (own_symm (if_neg hc6)) (own_at e15 (P := fun h => OArr Z h a0 .int (2 : Int32) [(.int (0 : Int32)), (.int (0 : Int32))] (.int (0 : Int32))) V15)))⟩ (by decide) (by decide)
def f1_3 (x0 : Int32) (x1 : Int32) (x2 : Int32) (y0 : Int32) (y1 : Int32) (y2 : Int32) : Int32 := nar .boolean (if (x0 + (1 : Int32)) < y0 then (1 : Int32) else (if (x1 + (1 : Int32)) < y1 then (1 : Int32) else (if (x2 + (1 : Int32)) < y2 then (1 : Int32) else (0 : Int32))))
theorem ef_1_3 (m : MethodId) (x0 : Addr) (x1 : Addr) : entryFrame m #[(.ref x0), (.ref x1)] 3 = mkF m 0 #[.val (.ref x0), .val (.ref x1), .unset] [] := by first | (simp [entryFrame, mkF, argsToLocals, Value.category]; done) | rfl
def Q1_3 (Z : State) (a0 : Addr) (a1 : Addr) (x0 : Int32) (x1 : Int32) (x2 : Int32) (y0 : Int32) (y1 : Int32) (y2 : Int32) (h0 : Heap) (n0 : Nat) (v : Option Value) (h : Heap) (L : List Loc) : Prop := v = some (.int (f1_3 x0 x1 x2 y0 y1 y2)) ∧ Fr n0 L ∧ Keep h0 h [a0] ∧ OArr Z h a0 .int (3 : Int32) [(.int (if (x0 + (1 : Int32)) < y0 then (x0 + (1 : Int32)) else (0 : Int32))), (.int (if (x0 + (1 : Int32)) < y0 then x1 else (if (x1 + (1 : Int32)) < y1 then (x1 + (1 : Int32)) else (0 : Int32)))), (.int (if (x0 + (1 : Int32)) < y0 then x2 else (if (x1 + (1 : Int32)) < y1 then x2 else (if (x2 + (1 : Int32)) < y2 then (x2 + (1 : Int32)) else (0 : Int32)))))] (.int (0 : Int32))
set_option maxRecDepth 65536 in
set_option maxHeartbeats 40000000 in
theorem rm1_3 (l : Launch) (Z : State) (aZ : Array Value) (hw : ∀ d ∈ tables_1, d.before aZ Z = true) (ws : List Jvm.Cond) (a0 : Addr) (a1 : Addr) (x0 : Int32) (x1 : Int32) (x2 : Int32) (y0 : Int32) (y1 : Int32) (y2 : Int32) (h0 : Heap) (n0 : Nat) (Z0 : n0 ≤ h0.size) (A0 : OArr Z h0 a0 .int (3 : Int32) [(.int x0), (.int x1), (.int x2)] (.int (0 : Int32))) (A1 : OArr Z h0 a1 .int (3 : Int32) [(.int y0), (.int y1), (.int y2)] (.int (0 : Int32))) (ne01 : a0 ≠ a1) (g0 : n0 ≤ a0) :
    MetFree l (⟨"com/example/assentor/assentor/check/Odometer", "advance", "([I[I)Z"⟩ : MethodName) (head1 (Jvm.Cond.code (⟨"com/example/assentor/assentor/check/Odometer", "advance", "([I[I)Z"⟩ : MethodName) prog_15_method_2_code 3 (some .boolean) :: ws) ({ frames := 0, cells := 0, slots := 0, locals := 0 } : Room)) (fun a U => a = #[(.ref a0), (.ref a1)] ∧ Z.Warmed39 U.vm ∧ U.heap = h0) (fun _ _ _ _ _ => True) (fun _ U o U' => ∃ v L, o = .returned v ∧ Q1_3 Z a0 a1 x0 x1 x2 y0 y1 y2 h0 n0 v U'.heap L ∧ FrameEnd U o U' L ({ frames := 0, cells := 0, slots := 0, locals := 0 } : Room).cells ({ frames := 0, cells := 0, slots := 0, locals := 0 } : Room).slots) := by
  refine MetFree.of_bodySF (plainFor_of_name pn_com_example_assentor_assentor_check_Odometer) hisR ?_
  intro p e s m args below meth c s₁ Bd hml0 hP hK
  obtain ⟨rfl, hZ, hh⟩ := hP
  have hx := Bd.exec
  have hby := Bd.bytes
  have hlk : meth.locks = false := BodyLoose.notSynchronized Bd
  have hml : c.maxLocals = 3 := hml0
  have hown : s.vm.findClass "com/example/assentor/assentor/check/Odometer" = some m.cls := findClass_of_methodNamed Bd.named
  have hnm := (name_of_methodNamed Bd.named Bd.method).1
  have X0 : Stand p l e ({ frames := 0, cells := 0, slots := 0, locals := 0 } : Room) s m #[(.ref a0), (.ref a1)] below meth c s₁ [] 0 0 := Stand.of_body Bd
  have e0 : s₁.heap = h0 := by rw [← hh, Bd.state]; rfl
  have N0 := Fr.nil n0
  have K0 : Keep h0 h0 [a0] := Keep.refl _ _
  show OEnd p e below s s₁ (entryFrame m #[(.ref a0), (.ref a1)] 3) (Q1_3 Z a0 a1 x0 x1 x2 y0 y1 y2 h0 n0) ({ frames := 0, cells := 0, slots := 0, locals := 0 } : Room).cells ({ frames := 0, cells := 0, slots := 0, locals := 0 } : Room).slots
  refine OEnd.go (g' := (mkF m 0 #[.val (.ref a0), .val (.ref a1), .unset] [])) (fun _ k => castTop (ef_1_3 m a0 a1) k) ?_
  refine OEnd.go (T' := s₁) (g' := (mkF m 4 #[.val (.ref a0), .val (.ref a1), .val (.int (0 : Int32))] [(.ref a0), (.int (0 : Int32))])) (fun t k => ?_) ?_
  · show Steps p.tables e below (s₁.setTop (mkF m 0 #[.val (.ref a0), .val (.ref a1), .unset] [])) t
    refine XS.iconst X0.here hx rfl (hb hby d1_0) ?_
    show Steps p.tables e below (s₁.setTop (mkF m 1 #[.val (.ref a0), .val (.ref a1), .unset] [(.int (0 : Int32))])) t
    refine XS.istoreN X0.here hx rfl (hb hby d1_1) rfl (l' := #[.val (.ref a0), .val (.ref a1), .val (.int (0 : Int32))]) rfl ?_
    show Steps p.tables e below (s₁.setTop (mkF m 2 #[.val (.ref a0), .val (.ref a1), .val (.int (0 : Int32))] [])) t
    refine XS.iloadN X0.here hx rfl (hb hby d1_2) rfl ?_
    show Steps p.tables e below (s₁.setTop (mkF m 3 #[.val (.ref a0), .val (.ref a1), .val (.int (0 : Int32))] [(.int (0 : Int32))])) t
    refine XS.aloadN X0.here hx rfl (hb hby d1_3) rfl rfl ?_
    show Steps p.tables e below (s₁.setTop (mkF m 4 #[.val (.ref a0), .val (.ref a1), .val (.int (0 : Int32))] [(.ref a0), (.int (0 : Int32))])) t
    exact k
  obtain ⟨kc1, cl1, Ar1, q1, S1, M1, H1, G1⟩ := id A0
  refine OEnd.go (T' := s₁) (g' := (mkF m 5 #[.val (.ref a0), .val (.ref a1), .val (.int (0 : Int32))] [(.int (3 : Int32)), (.int (0 : Int32))])) (fun t k => ?_) ?_
  · refine X0.arraylength hx (by rw [e0]; exact Ar1.1) (State.isArrayOf_alike hZ.alike Ar1.2.1) (g := (mkF m 4 #[.val (.ref a0), .val (.ref a1), .val (.int (0 : Int32))] [(.ref a0), (.int (0 : Int32))])) rfl rfl (hb hby d1_4) _ ?_
    rw [len_of S1 M1]
    exact k
  refine OEnd.go (T' := s₁) (g' := (mkF m 11 #[.val (.ref a0), .val (.ref a1), .val (.int (0 : Int32))] [(.int (0 : Int32)), (.ref a0), (.int (0 : Int32)), (.ref a0)])) (fun t k => ?_) ?_
  · show Steps p.tables e below (s₁.setTop (mkF m 5 #[.val (.ref a0), .val (.ref a1), .val (.int (0 : Int32))] [(.int (3 : Int32)), (.int (0 : Int32))])) t
    refine XS.icmpNo X0.here hx rfl (hb hby d1_5) rfl (tlt ((by decide))).2.1 ?_
    show Steps p.tables e below (s₁.setTop (mkF m 8 #[.val (.ref a0), .val (.ref a1), .val (.int (0 : Int32))] [])) t
    refine XS.aloadN X0.here hx rfl (hb hby d1_8) rfl rfl ?_
    show Steps p.tables e below (s₁.setTop (mkF m 9 #[.val (.ref a0), .val (.ref a1), .val (.int (0 : Int32))] [(.ref a0)])) t
    refine XS.iloadN X0.here hx rfl (hb hby d1_9) rfl ?_
    show Steps p.tables e below (s₁.setTop (mkF m 10 #[.val (.ref a0), .val (.ref a1), .val (.int (0 : Int32))] [(.int (0 : Int32)), (.ref a0)])) t
    jvm_step X0.here [X0.here.top, hx, (hb hby d1_10), Value.category]
    show Steps p.tables e below (s₁.setTop (mkF m 11 #[.val (.ref a0), .val (.ref a1), .val (.int (0 : Int32))] [(.int (0 : Int32)), (.ref a0), (.int (0 : Int32)), (.ref a0)])) t
    exact k
  obtain ⟨kc2, cl2, Ar2, q2, S2, M2, H2, G2⟩ := id A0
  have hin2 : ¬ ((0 : Int32) < 0 ∨ cl2.slots.size ≤ ((0 : Int32)).toNatClampNeg) := inb_of S2 ⟨by decide, by decide⟩
  have hat2 : cl2.slots[((0 : Int32)).toNatClampNeg]? = some (.int x0) := Has.at H2 hin2 rfl
  refine OEnd.go (T' := s₁) (g' := (mkF m 12 #[.val (.ref a0), .val (.ref a1), .val (.int (0 : Int32))] [(.int x0), (.int (0 : Int32)), (.ref a0)])) (fun t k => ?_) ?_
  · refine X0.iaload hx (j := (0 : Int32)) (v := (.int x0)) (by rw [e0]; exact Ar2.1) (State.isArrayOf_alike hZ.alike Ar2.2.1) Ar2.2.2 hin2 hat2 (g := (mkF m 11 #[.val (.ref a0), .val (.ref a1), .val (.int (0 : Int32))] [(.int (0 : Int32)), (.ref a0), (.int (0 : Int32)), (.ref a0)])) rfl rfl (hb hby d1_11) _ ?_
    exact k
  refine OEnd.go (T' := s₁) (g' := (mkF m 15 #[.val (.ref a0), .val (.ref a1), .val (.int (0 : Int32))] [(.int (x0 + (1 : Int32))), (.int (0 : Int32)), (.ref a0), (.int (x0 + (1 : Int32)))])) (fun t k => ?_) ?_
  · show Steps p.tables e below (s₁.setTop (mkF m 12 #[.val (.ref a0), .val (.ref a1), .val (.int (0 : Int32))] [(.int x0), (.int (0 : Int32)), (.ref a0)])) t
    refine XS.iconst X0.here hx rfl (hb hby d1_12) ?_
    show Steps p.tables e below (s₁.setTop (mkF m 13 #[.val (.ref a0), .val (.ref a1), .val (.int (0 : Int32))] [(.int (1 : Int32)), (.int x0), (.int (0 : Int32)), (.ref a0)])) t
    refine XS.iadd X0.here hx rfl (hb hby d1_13) rfl ?_
    show Steps p.tables e below (s₁.setTop (mkF m 14 #[.val (.ref a0), .val (.ref a1), .val (.int (0 : Int32))] [(.int (x0 + (1 : Int32))), (.int (0 : Int32)), (.ref a0)])) t
    jvm_step X0.here [X0.here.top, hx, (hb hby d1_14), Value.category]
    show Steps p.tables e below (s₁.setTop (mkF m 15 #[.val (.ref a0), .val (.ref a1), .val (.int (0 : Int32))] [(.int (x0 + (1 : Int32))), (.int (0 : Int32)), (.ref a0), (.int (x0 + (1 : Int32)))])) t
    exact k
  obtain ⟨kc3, cl3, Ar3, q3, S3, M3, H3, G3⟩ := id A0
  have hin3 : ¬ ((0 : Int32) < 0 ∨ cl3.slots.size ≤ ((0 : Int32)).toNatClampNeg) := inb_of S3 ⟨by decide, by decide⟩
  obtain ⟨T3, h3, X3, e3, W3, st3⟩ := stI X0 hx hZ e0 Ar3 (j := (0 : Int32)) hin3 (g := (mkF m 15 #[.val (.ref a0), .val (.ref a1), .val (.int (0 : Int32))] [(.int (x0 + (1 : Int32))), (.int (0 : Int32)), (.ref a0), (.int (x0 + (1 : Int32)))])) rfl rfl (hb hby d1_15)
  have N3 := Fr.snoc X3 N0 g0
  have Z3 : n0 ≤ h3.size := Nat.le_trans Z0 (Keep.of_wr W3).1
  have K3 : Keep h0 h3 [a0] := K0.wr W3 (Or.inl (List.mem_of_getElem? (i := 0) rfl))
  have V3 : OArr Z h3 a0 .int (3 : Int32) [(.int (x0 + (1 : Int32))), (.int x1), (.int x2)] (.int (0 : Int32)) := ⟨_, Arv.set Ar3 q3 S3 M3 H3 G3 rfl W3 0 rfl (Nat.le_of_ble_eq_true rfl)⟩
  have fc4 : OArr Z h3 a1 .int (3 : Int32) [(.int y0), (.int y1), (.int y2)] (.int (0 : Int32)) := (A1.other W3 (Ne.symm ne01))
  refine OEnd.go (g' := (mkF m 16 #[.val (.ref a0), .val (.ref a1), .val (.int (0 : Int32))] [(.int (x0 + (1 : Int32)))])) st3 ?_
  refine OEnd.go (T' := T3) (g' := (mkF m 18 #[.val (.ref a0), .val (.ref a1), .val (.int (0 : Int32))] [(.int (0 : Int32)), (.ref a1), (.int (x0 + (1 : Int32)))])) (fun t k => ?_) ?_
  · show Steps p.tables e below (T3.setTop (mkF m 16 #[.val (.ref a0), .val (.ref a1), .val (.int (0 : Int32))] [(.int (x0 + (1 : Int32)))])) t
    refine XS.aloadN X3.here hx rfl (hb hby d1_16) rfl rfl ?_
    show Steps p.tables e below (T3.setTop (mkF m 17 #[.val (.ref a0), .val (.ref a1), .val (.int (0 : Int32))] [(.ref a1), (.int (x0 + (1 : Int32)))])) t
    refine XS.iloadN X3.here hx rfl (hb hby d1_17) rfl ?_
    show Steps p.tables e below (T3.setTop (mkF m 18 #[.val (.ref a0), .val (.ref a1), .val (.int (0 : Int32))] [(.int (0 : Int32)), (.ref a1), (.int (x0 + (1 : Int32)))])) t
    exact k
  obtain ⟨kc5, cl5, Ar5, q5, S5, M5, H5, G5⟩ := id fc4
  have hin5 : ¬ ((0 : Int32) < 0 ∨ cl5.slots.size ≤ ((0 : Int32)).toNatClampNeg) := inb_of S5 ⟨by decide, by decide⟩
  have hat5 : cl5.slots[((0 : Int32)).toNatClampNeg]? = some (.int y0) := Has.at H5 hin5 rfl
  refine OEnd.go (T' := T3) (g' := (mkF m 19 #[.val (.ref a0), .val (.ref a1), .val (.int (0 : Int32))] [(.int y0), (.int (x0 + (1 : Int32)))])) (fun t k => ?_) ?_
  · refine X3.iaload hx (j := (0 : Int32)) (v := (.int y0)) (by rw [e3]; exact Ar5.1) (State.isArrayOf_alike hZ.alike Ar5.2.1) Ar5.2.2 hin5 hat5 (g := (mkF m 18 #[.val (.ref a0), .val (.ref a1), .val (.int (0 : Int32))] [(.int (0 : Int32)), (.ref a1), (.int (x0 + (1 : Int32)))])) rfl rfl (hb hby d1_18) _ ?_
    exact k
  by_cases hc6 : (x0 + (1 : Int32)) < y0
  · skip
    refine OEnd.go (T' := T3) (g' := (mkF m 22 #[.val (.ref a0), .val (.ref a1), .val (.int (0 : Int32))] [])) (fun t k => ?_) ?_
    · show Steps p.tables e below (T3.setTop (mkF m 19 #[.val (.ref a0), .val (.ref a1), .val (.int (0 : Int32))] [(.int y0), (.int (x0 + (1 : Int32)))])) t
      refine XS.icmpNo X3.here hx rfl (hb hby d1_19) rfl (tlt (hc6)).2.1 ?_
      show Steps p.tables e below (T3.setTop (mkF m 22 #[.val (.ref a0), .val (.ref a1), .val (.int (0 : Int32))] [])) t
      exact k
    refine OEnd.go (T' := T3) (g' := (mkF m 23 #[.val (.ref a0), .val (.ref a1), .val (.int (0 : Int32))] [(.int (1 : Int32))])) (fun t k => ?_) ?_
    · show Steps p.tables e below (T3.setTop (mkF m 22 #[.val (.ref a0), .val (.ref a1), .val (.int (0 : Int32))] [])) t
      refine XS.iconst X3.here hx rfl (hb hby d1_22) ?_
      show Steps p.tables e below (T3.setTop (mkF m 23 #[.val (.ref a0), .val (.ref a1), .val (.int (0 : Int32))] [(.int (1 : Int32))])) t
      exact k
    exact OEnd.nar X3 hx (t := .boolean) Bd.returns (by simp) hlk (hb hby d1_23) ⟨(congrArg (fun z => some (Value.int (nar .boolean z))) (own_symm (if_pos hc6))), N3, (own_at e3 (P := fun h => Keep h0 h [a0]) K3), (own_p (P := fun (z : Int32) => OArr Z _ a0 .int (3 : Int32) [(.int (if (x0 + (1 : Int32)) < y0 then (x0 + (1 : Int32)) else (0 : Int32))), (.int (if (x0 + (1 : Int32)) < y0 then x1 else (if (x1 + (1 : Int32)) < y1 then (x1 + (1 : Int32)) else (0 : Int32)))), (.int z)] (.int (0 : Int32))) (own_symm (if_pos hc6)) (own_p (P := fun (z : Int32) => OArr Z _ a0 .int (3 : Int32) [(.int (if (x0 + (1 : Int32)) < y0 then (x0 + (1 : Int32)) else (0 : Int32))), (.int z), (.int x2)] (.int (0 : Int32))) (own_symm (if_pos hc6)) (own_p (P := fun (z : Int32) => OArr Z _ a0 .int (3 : Int32) [(.int z), (.int x1), (.int x2)] (.int (0 : Int32))) (own_symm (if_pos hc6)) (own_at e3 (P := fun h => OArr Z h a0 .int (3 : Int32) [(.int (x0 + (1 : Int32))), (.int x1), (.int x2)] (.int (0 : Int32))) V3))))⟩ (by decide) (by decide)
  · skip
    refine OEnd.go (T' := T3) (g' := (mkF m 24 #[.val (.ref a0), .val (.ref a1), .val (.int (0 : Int32))] [])) (fun t k => ?_) ?_
    · show Steps p.tables e below (T3.setTop (mkF m 19 #[.val (.ref a0), .val (.ref a1), .val (.int (0 : Int32))] [(.int y0), (.int (x0 + (1 : Int32)))])) t
      refine XS.icmpYes X3.here hx rfl (pc0 := 19) (pc' := 24) rfl (hb hby d1_19) rfl (flt (hc6)).2.1 (by decide) (by decide) ?_
      show Steps p.tables e below (T3.setTop (mkF m 24 #[.val (.ref a0), .val (.ref a1), .val (.int (0 : Int32))] [])) t
      exact k
    refine OEnd.go (T' := T3) (g' := (mkF m 27 #[.val (.ref a0), .val (.ref a1), .val (.int (0 : Int32))] [(.int (0 : Int32)), (.int (0 : Int32)), (.ref a0)])) (fun t k => ?_) ?_
    · show Steps p.tables e below (T3.setTop (mkF m 24 #[.val (.ref a0), .val (.ref a1), .val (.int (0 : Int32))] [])) t
      refine XS.aloadN X3.here hx rfl (hb hby d1_24) rfl rfl ?_
      show Steps p.tables e below (T3.setTop (mkF m 25 #[.val (.ref a0), .val (.ref a1), .val (.int (0 : Int32))] [(.ref a0)])) t
      refine XS.iloadN X3.here hx rfl (hb hby d1_25) rfl ?_
      show Steps p.tables e below (T3.setTop (mkF m 26 #[.val (.ref a0), .val (.ref a1), .val (.int (0 : Int32))] [(.int (0 : Int32)), (.ref a0)])) t
      refine XS.iconst X3.here hx rfl (hb hby d1_26) ?_
      show Steps p.tables e below (T3.setTop (mkF m 27 #[.val (.ref a0), .val (.ref a1), .val (.int (0 : Int32))] [(.int (0 : Int32)), (.int (0 : Int32)), (.ref a0)])) t
      exact k
    obtain ⟨kc7, cl7, Ar7, q7, S7, M7, H7, G7⟩ := id V3
    have hin7 : ¬ ((0 : Int32) < 0 ∨ cl7.slots.size ≤ ((0 : Int32)).toNatClampNeg) := inb_of S7 ⟨by decide, by decide⟩
    obtain ⟨T7, h7, X7, e7, W7, st7⟩ := stI X3 hx hZ e3 Ar7 (j := (0 : Int32)) hin7 (g := (mkF m 27 #[.val (.ref a0), .val (.ref a1), .val (.int (0 : Int32))] [(.int (0 : Int32)), (.int (0 : Int32)), (.ref a0)])) rfl rfl (hb hby d1_27)
    have N7 := Fr.snoc X7 N3 g0
    have Z7 : n0 ≤ h7.size := Nat.le_trans Z3 (Keep.of_wr W7).1
    have K7 : Keep h0 h7 [a0] := K3.wr W7 (Or.inl (List.mem_of_getElem? (i := 0) rfl))
    have V7 : OArr Z h7 a0 .int (3 : Int32) [(.int (0 : Int32)), (.int x1), (.int x2)] (.int (0 : Int32)) := ⟨_, Arv.set Ar7 q7 S7 M7 H7 G7 rfl W7 0 rfl (Nat.le_of_ble_eq_true rfl)⟩
    have fc8 : OArr Z h7 a1 .int (3 : Int32) [(.int y0), (.int y1), (.int y2)] (.int (0 : Int32)) := (fc4.other W7 (Ne.symm ne01))
    refine OEnd.go (g' := (mkF m 28 #[.val (.ref a0), .val (.ref a1), .val (.int (0 : Int32))] [])) st7 ?_
    refine OEnd.go (T' := T7) (g' := (mkF m 4 #[.val (.ref a0), .val (.ref a1), .val (.int (1 : Int32))] [(.ref a0), (.int (1 : Int32))])) (fun t k => ?_) ?_
    · show Steps p.tables e below (T7.setTop (mkF m 28 #[.val (.ref a0), .val (.ref a1), .val (.int (0 : Int32))] [])) t
      refine XS.iinc X7.here hx rfl (hb hby d1_28) rfl (l' := #[.val (.ref a0), .val (.ref a1), .val (.int (1 : Int32))]) rfl ?_
      show Steps p.tables e below (T7.setTop (mkF m 31 #[.val (.ref a0), .val (.ref a1), .val (.int (1 : Int32))] [])) t
      refine XS.goto X7.here hx rfl (pc0 := 31) (pc' := 2) rfl (hb hby d1_31) (by decide) (by decide) ?_
      show Steps p.tables e below (T7.setTop (mkF m 2 #[.val (.ref a0), .val (.ref a1), .val (.int (1 : Int32))] [])) t
      refine XS.iloadN X7.here hx rfl (hb hby d1_2) rfl ?_
      show Steps p.tables e below (T7.setTop (mkF m 3 #[.val (.ref a0), .val (.ref a1), .val (.int (1 : Int32))] [(.int (1 : Int32))])) t
      refine XS.aloadN X7.here hx rfl (hb hby d1_3) rfl rfl ?_
      show Steps p.tables e below (T7.setTop (mkF m 4 #[.val (.ref a0), .val (.ref a1), .val (.int (1 : Int32))] [(.ref a0), (.int (1 : Int32))])) t
      exact k
    obtain ⟨kc9, cl9, Ar9, q9, S9, M9, H9, G9⟩ := id V7
    refine OEnd.go (T' := T7) (g' := (mkF m 5 #[.val (.ref a0), .val (.ref a1), .val (.int (1 : Int32))] [(.int (3 : Int32)), (.int (1 : Int32))])) (fun t k => ?_) ?_
    · refine X7.arraylength hx (by rw [e7]; exact Ar9.1) (State.isArrayOf_alike hZ.alike Ar9.2.1) (g := (mkF m 4 #[.val (.ref a0), .val (.ref a1), .val (.int (1 : Int32))] [(.ref a0), (.int (1 : Int32))])) rfl rfl (hb hby d1_4) _ ?_
      rw [len_of S9 M9]
      exact k
    refine OEnd.go (T' := T7) (g' := (mkF m 11 #[.val (.ref a0), .val (.ref a1), .val (.int (1 : Int32))] [(.int (1 : Int32)), (.ref a0), (.int (1 : Int32)), (.ref a0)])) (fun t k => ?_) ?_
    · show Steps p.tables e below (T7.setTop (mkF m 5 #[.val (.ref a0), .val (.ref a1), .val (.int (1 : Int32))] [(.int (3 : Int32)), (.int (1 : Int32))])) t
      refine XS.icmpNo X7.here hx rfl (hb hby d1_5) rfl (tlt ((by decide))).2.1 ?_
      show Steps p.tables e below (T7.setTop (mkF m 8 #[.val (.ref a0), .val (.ref a1), .val (.int (1 : Int32))] [])) t
      refine XS.aloadN X7.here hx rfl (hb hby d1_8) rfl rfl ?_
      show Steps p.tables e below (T7.setTop (mkF m 9 #[.val (.ref a0), .val (.ref a1), .val (.int (1 : Int32))] [(.ref a0)])) t
      refine XS.iloadN X7.here hx rfl (hb hby d1_9) rfl ?_
      show Steps p.tables e below (T7.setTop (mkF m 10 #[.val (.ref a0), .val (.ref a1), .val (.int (1 : Int32))] [(.int (1 : Int32)), (.ref a0)])) t
      jvm_step X7.here [X7.here.top, hx, (hb hby d1_10), Value.category]
      show Steps p.tables e below (T7.setTop (mkF m 11 #[.val (.ref a0), .val (.ref a1), .val (.int (1 : Int32))] [(.int (1 : Int32)), (.ref a0), (.int (1 : Int32)), (.ref a0)])) t
      exact k
    obtain ⟨kc10, cl10, Ar10, q10, S10, M10, H10, G10⟩ := id V7
    have hin10 : ¬ ((1 : Int32) < 0 ∨ cl10.slots.size ≤ ((1 : Int32)).toNatClampNeg) := inb_of S10 ⟨by decide, by decide⟩
    have hat10 : cl10.slots[((1 : Int32)).toNatClampNeg]? = some (.int x1) := Has.at H10 hin10 rfl
    refine OEnd.go (T' := T7) (g' := (mkF m 12 #[.val (.ref a0), .val (.ref a1), .val (.int (1 : Int32))] [(.int x1), (.int (1 : Int32)), (.ref a0)])) (fun t k => ?_) ?_
    · refine X7.iaload hx (j := (1 : Int32)) (v := (.int x1)) (by rw [e7]; exact Ar10.1) (State.isArrayOf_alike hZ.alike Ar10.2.1) Ar10.2.2 hin10 hat10 (g := (mkF m 11 #[.val (.ref a0), .val (.ref a1), .val (.int (1 : Int32))] [(.int (1 : Int32)), (.ref a0), (.int (1 : Int32)), (.ref a0)])) rfl rfl (hb hby d1_11) _ ?_
      exact k
    refine OEnd.go (T' := T7) (g' := (mkF m 15 #[.val (.ref a0), .val (.ref a1), .val (.int (1 : Int32))] [(.int (x1 + (1 : Int32))), (.int (1 : Int32)), (.ref a0), (.int (x1 + (1 : Int32)))])) (fun t k => ?_) ?_
    · show Steps p.tables e below (T7.setTop (mkF m 12 #[.val (.ref a0), .val (.ref a1), .val (.int (1 : Int32))] [(.int x1), (.int (1 : Int32)), (.ref a0)])) t
      refine XS.iconst X7.here hx rfl (hb hby d1_12) ?_
      show Steps p.tables e below (T7.setTop (mkF m 13 #[.val (.ref a0), .val (.ref a1), .val (.int (1 : Int32))] [(.int (1 : Int32)), (.int x1), (.int (1 : Int32)), (.ref a0)])) t
      refine XS.iadd X7.here hx rfl (hb hby d1_13) rfl ?_
      show Steps p.tables e below (T7.setTop (mkF m 14 #[.val (.ref a0), .val (.ref a1), .val (.int (1 : Int32))] [(.int (x1 + (1 : Int32))), (.int (1 : Int32)), (.ref a0)])) t
      jvm_step X7.here [X7.here.top, hx, (hb hby d1_14), Value.category]
      show Steps p.tables e below (T7.setTop (mkF m 15 #[.val (.ref a0), .val (.ref a1), .val (.int (1 : Int32))] [(.int (x1 + (1 : Int32))), (.int (1 : Int32)), (.ref a0), (.int (x1 + (1 : Int32)))])) t
      exact k
    obtain ⟨kc11, cl11, Ar11, q11, S11, M11, H11, G11⟩ := id V7
    have hin11 : ¬ ((1 : Int32) < 0 ∨ cl11.slots.size ≤ ((1 : Int32)).toNatClampNeg) := inb_of S11 ⟨by decide, by decide⟩
    obtain ⟨T11, h11, X11, e11, W11, st11⟩ := stI X7 hx hZ e7 Ar11 (j := (1 : Int32)) hin11 (g := (mkF m 15 #[.val (.ref a0), .val (.ref a1), .val (.int (1 : Int32))] [(.int (x1 + (1 : Int32))), (.int (1 : Int32)), (.ref a0), (.int (x1 + (1 : Int32)))])) rfl rfl (hb hby d1_15)
    have N11 := Fr.snoc X11 N7 g0
    have Z11 : n0 ≤ h11.size := Nat.le_trans Z7 (Keep.of_wr W11).1
    have K11 : Keep h0 h11 [a0] := K7.wr W11 (Or.inl (List.mem_of_getElem? (i := 0) rfl))
    have V11 : OArr Z h11 a0 .int (3 : Int32) [(.int (0 : Int32)), (.int (x1 + (1 : Int32))), (.int x2)] (.int (0 : Int32)) := ⟨_, Arv.set Ar11 q11 S11 M11 H11 G11 rfl W11 1 rfl (Nat.le_of_ble_eq_true rfl)⟩
    have fc12 : OArr Z h11 a1 .int (3 : Int32) [(.int y0), (.int y1), (.int y2)] (.int (0 : Int32)) := (fc8.other W11 (Ne.symm ne01))
    refine OEnd.go (g' := (mkF m 16 #[.val (.ref a0), .val (.ref a1), .val (.int (1 : Int32))] [(.int (x1 + (1 : Int32)))])) st11 ?_
    refine OEnd.go (T' := T11) (g' := (mkF m 18 #[.val (.ref a0), .val (.ref a1), .val (.int (1 : Int32))] [(.int (1 : Int32)), (.ref a1), (.int (x1 + (1 : Int32)))])) (fun t k => ?_) ?_
    · show Steps p.tables e below (T11.setTop (mkF m 16 #[.val (.ref a0), .val (.ref a1), .val (.int (1 : Int32))] [(.int (x1 + (1 : Int32)))])) t
      refine XS.aloadN X11.here hx rfl (hb hby d1_16) rfl rfl ?_
      show Steps p.tables e below (T11.setTop (mkF m 17 #[.val (.ref a0), .val (.ref a1), .val (.int (1 : Int32))] [(.ref a1), (.int (x1 + (1 : Int32)))])) t
      refine XS.iloadN X11.here hx rfl (hb hby d1_17) rfl ?_
      show Steps p.tables e below (T11.setTop (mkF m 18 #[.val (.ref a0), .val (.ref a1), .val (.int (1 : Int32))] [(.int (1 : Int32)), (.ref a1), (.int (x1 + (1 : Int32)))])) t
      exact k
    obtain ⟨kc13, cl13, Ar13, q13, S13, M13, H13, G13⟩ := id fc12
    have hin13 : ¬ ((1 : Int32) < 0 ∨ cl13.slots.size ≤ ((1 : Int32)).toNatClampNeg) := inb_of S13 ⟨by decide, by decide⟩
    have hat13 : cl13.slots[((1 : Int32)).toNatClampNeg]? = some (.int y1) := Has.at H13 hin13 rfl
    refine OEnd.go (T' := T11) (g' := (mkF m 19 #[.val (.ref a0), .val (.ref a1), .val (.int (1 : Int32))] [(.int y1), (.int (x1 + (1 : Int32)))])) (fun t k => ?_) ?_
    · refine X11.iaload hx (j := (1 : Int32)) (v := (.int y1)) (by rw [e11]; exact Ar13.1) (State.isArrayOf_alike hZ.alike Ar13.2.1) Ar13.2.2 hin13 hat13 (g := (mkF m 18 #[.val (.ref a0), .val (.ref a1), .val (.int (1 : Int32))] [(.int (1 : Int32)), (.ref a1), (.int (x1 + (1 : Int32)))])) rfl rfl (hb hby d1_18) _ ?_
      exact k
    by_cases hc14 : (x1 + (1 : Int32)) < y1
    · skip
      refine OEnd.go (T' := T11) (g' := (mkF m 22 #[.val (.ref a0), .val (.ref a1), .val (.int (1 : Int32))] [])) (fun t k => ?_) ?_
      · show Steps p.tables e below (T11.setTop (mkF m 19 #[.val (.ref a0), .val (.ref a1), .val (.int (1 : Int32))] [(.int y1), (.int (x1 + (1 : Int32)))])) t
        refine XS.icmpNo X11.here hx rfl (hb hby d1_19) rfl (tlt (hc14)).2.1 ?_
        show Steps p.tables e below (T11.setTop (mkF m 22 #[.val (.ref a0), .val (.ref a1), .val (.int (1 : Int32))] [])) t
        exact k
      refine OEnd.go (T' := T11) (g' := (mkF m 23 #[.val (.ref a0), .val (.ref a1), .val (.int (1 : Int32))] [(.int (1 : Int32))])) (fun t k => ?_) ?_
      · show Steps p.tables e below (T11.setTop (mkF m 22 #[.val (.ref a0), .val (.ref a1), .val (.int (1 : Int32))] [])) t
        refine XS.iconst X11.here hx rfl (hb hby d1_22) ?_
        show Steps p.tables e below (T11.setTop (mkF m 23 #[.val (.ref a0), .val (.ref a1), .val (.int (1 : Int32))] [(.int (1 : Int32))])) t
        exact k
      exact OEnd.nar X11 hx (t := .boolean) Bd.returns (by simp) hlk (hb hby d1_23) ⟨(congrArg (fun z => some (Value.int (nar .boolean z))) (own_symm ((if_neg hc6).trans (if_pos hc14)))), N11, (own_at e11 (P := fun h => Keep h0 h [a0]) K11), (own_p (P := fun (z : Int32) => OArr Z _ a0 .int (3 : Int32) [(.int (if (x0 + (1 : Int32)) < y0 then (x0 + (1 : Int32)) else (0 : Int32))), (.int (if (x0 + (1 : Int32)) < y0 then x1 else (if (x1 + (1 : Int32)) < y1 then (x1 + (1 : Int32)) else (0 : Int32)))), (.int z)] (.int (0 : Int32))) (own_symm ((if_neg hc6).trans (if_pos hc14))) (own_p (P := fun (z : Int32) => OArr Z _ a0 .int (3 : Int32) [(.int (if (x0 + (1 : Int32)) < y0 then (x0 + (1 : Int32)) else (0 : Int32))), (.int z), (.int x2)] (.int (0 : Int32))) (own_symm ((if_neg hc6).trans (if_pos hc14))) (own_p (P := fun (z : Int32) => OArr Z _ a0 .int (3 : Int32) [(.int z), (.int (x1 + (1 : Int32))), (.int x2)] (.int (0 : Int32))) (own_symm (if_neg hc6)) (own_at e11 (P := fun h => OArr Z h a0 .int (3 : Int32) [(.int (0 : Int32)), (.int (x1 + (1 : Int32))), (.int x2)] (.int (0 : Int32))) V11))))⟩ (by decide) (by decide)
    · skip
      refine OEnd.go (T' := T11) (g' := (mkF m 24 #[.val (.ref a0), .val (.ref a1), .val (.int (1 : Int32))] [])) (fun t k => ?_) ?_
      · show Steps p.tables e below (T11.setTop (mkF m 19 #[.val (.ref a0), .val (.ref a1), .val (.int (1 : Int32))] [(.int y1), (.int (x1 + (1 : Int32)))])) t
        refine XS.icmpYes X11.here hx rfl (pc0 := 19) (pc' := 24) rfl (hb hby d1_19) rfl (flt (hc14)).2.1 (by decide) (by decide) ?_
        show Steps p.tables e below (T11.setTop (mkF m 24 #[.val (.ref a0), .val (.ref a1), .val (.int (1 : Int32))] [])) t
        exact k
      refine OEnd.go (T' := T11) (g' := (mkF m 27 #[.val (.ref a0), .val (.ref a1), .val (.int (1 : Int32))] [(.int (0 : Int32)), (.int (1 : Int32)), (.ref a0)])) (fun t k => ?_) ?_
      · show Steps p.tables e below (T11.setTop (mkF m 24 #[.val (.ref a0), .val (.ref a1), .val (.int (1 : Int32))] [])) t
        refine XS.aloadN X11.here hx rfl (hb hby d1_24) rfl rfl ?_
        show Steps p.tables e below (T11.setTop (mkF m 25 #[.val (.ref a0), .val (.ref a1), .val (.int (1 : Int32))] [(.ref a0)])) t
        refine XS.iloadN X11.here hx rfl (hb hby d1_25) rfl ?_
        show Steps p.tables e below (T11.setTop (mkF m 26 #[.val (.ref a0), .val (.ref a1), .val (.int (1 : Int32))] [(.int (1 : Int32)), (.ref a0)])) t
        refine XS.iconst X11.here hx rfl (hb hby d1_26) ?_
        show Steps p.tables e below (T11.setTop (mkF m 27 #[.val (.ref a0), .val (.ref a1), .val (.int (1 : Int32))] [(.int (0 : Int32)), (.int (1 : Int32)), (.ref a0)])) t
        exact k
      obtain ⟨kc15, cl15, Ar15, q15, S15, M15, H15, G15⟩ := id V11
      have hin15 : ¬ ((1 : Int32) < 0 ∨ cl15.slots.size ≤ ((1 : Int32)).toNatClampNeg) := inb_of S15 ⟨by decide, by decide⟩
      obtain ⟨T15, h15, X15, e15, W15, st15⟩ := stI X11 hx hZ e11 Ar15 (j := (1 : Int32)) hin15 (g := (mkF m 27 #[.val (.ref a0), .val (.ref a1), .val (.int (1 : Int32))] [(.int (0 : Int32)), (.int (1 : Int32)), (.ref a0)])) rfl rfl (hb hby d1_27)
      have N15 := Fr.snoc X15 N11 g0
      have Z15 : n0 ≤ h15.size := Nat.le_trans Z11 (Keep.of_wr W15).1
      have K15 : Keep h0 h15 [a0] := K11.wr W15 (Or.inl (List.mem_of_getElem? (i := 0) rfl))
      have V15 : OArr Z h15 a0 .int (3 : Int32) [(.int (0 : Int32)), (.int (0 : Int32)), (.int x2)] (.int (0 : Int32)) := ⟨_, Arv.set Ar15 q15 S15 M15 H15 G15 rfl W15 1 rfl (Nat.le_of_ble_eq_true rfl)⟩
      have fc16 : OArr Z h15 a1 .int (3 : Int32) [(.int y0), (.int y1), (.int y2)] (.int (0 : Int32)) := (fc12.other W15 (Ne.symm ne01))
      refine OEnd.go (g' := (mkF m 28 #[.val (.ref a0), .val (.ref a1), .val (.int (1 : Int32))] [])) st15 ?_
      refine OEnd.go (T' := T15) (g' := (mkF m 4 #[.val (.ref a0), .val (.ref a1), .val (.int (2 : Int32))] [(.ref a0), (.int (2 : Int32))])) (fun t k => ?_) ?_
      · show Steps p.tables e below (T15.setTop (mkF m 28 #[.val (.ref a0), .val (.ref a1), .val (.int (1 : Int32))] [])) t
        refine XS.iinc X15.here hx rfl (hb hby d1_28) rfl (l' := #[.val (.ref a0), .val (.ref a1), .val (.int (2 : Int32))]) rfl ?_
        show Steps p.tables e below (T15.setTop (mkF m 31 #[.val (.ref a0), .val (.ref a1), .val (.int (2 : Int32))] [])) t
        refine XS.goto X15.here hx rfl (pc0 := 31) (pc' := 2) rfl (hb hby d1_31) (by decide) (by decide) ?_
        show Steps p.tables e below (T15.setTop (mkF m 2 #[.val (.ref a0), .val (.ref a1), .val (.int (2 : Int32))] [])) t
        refine XS.iloadN X15.here hx rfl (hb hby d1_2) rfl ?_
        show Steps p.tables e below (T15.setTop (mkF m 3 #[.val (.ref a0), .val (.ref a1), .val (.int (2 : Int32))] [(.int (2 : Int32))])) t
        refine XS.aloadN X15.here hx rfl (hb hby d1_3) rfl rfl ?_
        show Steps p.tables e below (T15.setTop (mkF m 4 #[.val (.ref a0), .val (.ref a1), .val (.int (2 : Int32))] [(.ref a0), (.int (2 : Int32))])) t
        exact k
      obtain ⟨kc17, cl17, Ar17, q17, S17, M17, H17, G17⟩ := id V15
      refine OEnd.go (T' := T15) (g' := (mkF m 5 #[.val (.ref a0), .val (.ref a1), .val (.int (2 : Int32))] [(.int (3 : Int32)), (.int (2 : Int32))])) (fun t k => ?_) ?_
      · refine X15.arraylength hx (by rw [e15]; exact Ar17.1) (State.isArrayOf_alike hZ.alike Ar17.2.1) (g := (mkF m 4 #[.val (.ref a0), .val (.ref a1), .val (.int (2 : Int32))] [(.ref a0), (.int (2 : Int32))])) rfl rfl (hb hby d1_4) _ ?_
        rw [len_of S17 M17]
        exact k
      refine OEnd.go (T' := T15) (g' := (mkF m 11 #[.val (.ref a0), .val (.ref a1), .val (.int (2 : Int32))] [(.int (2 : Int32)), (.ref a0), (.int (2 : Int32)), (.ref a0)])) (fun t k => ?_) ?_
      · show Steps p.tables e below (T15.setTop (mkF m 5 #[.val (.ref a0), .val (.ref a1), .val (.int (2 : Int32))] [(.int (3 : Int32)), (.int (2 : Int32))])) t
        refine XS.icmpNo X15.here hx rfl (hb hby d1_5) rfl (tlt ((by decide))).2.1 ?_
        show Steps p.tables e below (T15.setTop (mkF m 8 #[.val (.ref a0), .val (.ref a1), .val (.int (2 : Int32))] [])) t
        refine XS.aloadN X15.here hx rfl (hb hby d1_8) rfl rfl ?_
        show Steps p.tables e below (T15.setTop (mkF m 9 #[.val (.ref a0), .val (.ref a1), .val (.int (2 : Int32))] [(.ref a0)])) t
        refine XS.iloadN X15.here hx rfl (hb hby d1_9) rfl ?_
        show Steps p.tables e below (T15.setTop (mkF m 10 #[.val (.ref a0), .val (.ref a1), .val (.int (2 : Int32))] [(.int (2 : Int32)), (.ref a0)])) t
        jvm_step X15.here [X15.here.top, hx, (hb hby d1_10), Value.category]
        show Steps p.tables e below (T15.setTop (mkF m 11 #[.val (.ref a0), .val (.ref a1), .val (.int (2 : Int32))] [(.int (2 : Int32)), (.ref a0), (.int (2 : Int32)), (.ref a0)])) t
        exact k
      obtain ⟨kc18, cl18, Ar18, q18, S18, M18, H18, G18⟩ := id V15
      have hin18 : ¬ ((2 : Int32) < 0 ∨ cl18.slots.size ≤ ((2 : Int32)).toNatClampNeg) := inb_of S18 ⟨by decide, by decide⟩
      have hat18 : cl18.slots[((2 : Int32)).toNatClampNeg]? = some (.int x2) := Has.at H18 hin18 rfl
      refine OEnd.go (T' := T15) (g' := (mkF m 12 #[.val (.ref a0), .val (.ref a1), .val (.int (2 : Int32))] [(.int x2), (.int (2 : Int32)), (.ref a0)])) (fun t k => ?_) ?_
      · refine X15.iaload hx (j := (2 : Int32)) (v := (.int x2)) (by rw [e15]; exact Ar18.1) (State.isArrayOf_alike hZ.alike Ar18.2.1) Ar18.2.2 hin18 hat18 (g := (mkF m 11 #[.val (.ref a0), .val (.ref a1), .val (.int (2 : Int32))] [(.int (2 : Int32)), (.ref a0), (.int (2 : Int32)), (.ref a0)])) rfl rfl (hb hby d1_11) _ ?_
        exact k
      refine OEnd.go (T' := T15) (g' := (mkF m 15 #[.val (.ref a0), .val (.ref a1), .val (.int (2 : Int32))] [(.int (x2 + (1 : Int32))), (.int (2 : Int32)), (.ref a0), (.int (x2 + (1 : Int32)))])) (fun t k => ?_) ?_
      · show Steps p.tables e below (T15.setTop (mkF m 12 #[.val (.ref a0), .val (.ref a1), .val (.int (2 : Int32))] [(.int x2), (.int (2 : Int32)), (.ref a0)])) t
        refine XS.iconst X15.here hx rfl (hb hby d1_12) ?_
        show Steps p.tables e below (T15.setTop (mkF m 13 #[.val (.ref a0), .val (.ref a1), .val (.int (2 : Int32))] [(.int (1 : Int32)), (.int x2), (.int (2 : Int32)), (.ref a0)])) t
        refine XS.iadd X15.here hx rfl (hb hby d1_13) rfl ?_
        show Steps p.tables e below (T15.setTop (mkF m 14 #[.val (.ref a0), .val (.ref a1), .val (.int (2 : Int32))] [(.int (x2 + (1 : Int32))), (.int (2 : Int32)), (.ref a0)])) t
        jvm_step X15.here [X15.here.top, hx, (hb hby d1_14), Value.category]
        show Steps p.tables e below (T15.setTop (mkF m 15 #[.val (.ref a0), .val (.ref a1), .val (.int (2 : Int32))] [(.int (x2 + (1 : Int32))), (.int (2 : Int32)), (.ref a0), (.int (x2 + (1 : Int32)))])) t
        exact k
      obtain ⟨kc19, cl19, Ar19, q19, S19, M19, H19, G19⟩ := id V15
      have hin19 : ¬ ((2 : Int32) < 0 ∨ cl19.slots.size ≤ ((2 : Int32)).toNatClampNeg) := inb_of S19 ⟨by decide, by decide⟩
      obtain ⟨T19, h19, X19, e19, W19, st19⟩ := stI X15 hx hZ e15 Ar19 (j := (2 : Int32)) hin19 (g := (mkF m 15 #[.val (.ref a0), .val (.ref a1), .val (.int (2 : Int32))] [(.int (x2 + (1 : Int32))), (.int (2 : Int32)), (.ref a0), (.int (x2 + (1 : Int32)))])) rfl rfl (hb hby d1_15)
      have N19 := Fr.snoc X19 N15 g0
      have Z19 : n0 ≤ h19.size := Nat.le_trans Z15 (Keep.of_wr W19).1
      have K19 : Keep h0 h19 [a0] := K15.wr W19 (Or.inl (List.mem_of_getElem? (i := 0) rfl))
      have V19 : OArr Z h19 a0 .int (3 : Int32) [(.int (0 : Int32)), (.int (0 : Int32)), (.int (x2 + (1 : Int32)))] (.int (0 : Int32)) := ⟨_, Arv.set Ar19 q19 S19 M19 H19 G19 rfl W19 2 rfl (Nat.le_of_ble_eq_true rfl)⟩
      have fc20 : OArr Z h19 a1 .int (3 : Int32) [(.int y0), (.int y1), (.int y2)] (.int (0 : Int32)) := (fc16.other W19 (Ne.symm ne01))
      refine OEnd.go (g' := (mkF m 16 #[.val (.ref a0), .val (.ref a1), .val (.int (2 : Int32))] [(.int (x2 + (1 : Int32)))])) st19 ?_
      refine OEnd.go (T' := T19) (g' := (mkF m 18 #[.val (.ref a0), .val (.ref a1), .val (.int (2 : Int32))] [(.int (2 : Int32)), (.ref a1), (.int (x2 + (1 : Int32)))])) (fun t k => ?_) ?_
      · show Steps p.tables e below (T19.setTop (mkF m 16 #[.val (.ref a0), .val (.ref a1), .val (.int (2 : Int32))] [(.int (x2 + (1 : Int32)))])) t
        refine XS.aloadN X19.here hx rfl (hb hby d1_16) rfl rfl ?_
        show Steps p.tables e below (T19.setTop (mkF m 17 #[.val (.ref a0), .val (.ref a1), .val (.int (2 : Int32))] [(.ref a1), (.int (x2 + (1 : Int32)))])) t
        refine XS.iloadN X19.here hx rfl (hb hby d1_17) rfl ?_
        show Steps p.tables e below (T19.setTop (mkF m 18 #[.val (.ref a0), .val (.ref a1), .val (.int (2 : Int32))] [(.int (2 : Int32)), (.ref a1), (.int (x2 + (1 : Int32)))])) t
        exact k
      obtain ⟨kc21, cl21, Ar21, q21, S21, M21, H21, G21⟩ := id fc20
      have hin21 : ¬ ((2 : Int32) < 0 ∨ cl21.slots.size ≤ ((2 : Int32)).toNatClampNeg) := inb_of S21 ⟨by decide, by decide⟩
      have hat21 : cl21.slots[((2 : Int32)).toNatClampNeg]? = some (.int y2) := Has.at H21 hin21 rfl
      refine OEnd.go (T' := T19) (g' := (mkF m 19 #[.val (.ref a0), .val (.ref a1), .val (.int (2 : Int32))] [(.int y2), (.int (x2 + (1 : Int32)))])) (fun t k => ?_) ?_
      · refine X19.iaload hx (j := (2 : Int32)) (v := (.int y2)) (by rw [e19]; exact Ar21.1) (State.isArrayOf_alike hZ.alike Ar21.2.1) Ar21.2.2 hin21 hat21 (g := (mkF m 18 #[.val (.ref a0), .val (.ref a1), .val (.int (2 : Int32))] [(.int (2 : Int32)), (.ref a1), (.int (x2 + (1 : Int32)))])) rfl rfl (hb hby d1_18) _ ?_
        exact k
      by_cases hc22 : (x2 + (1 : Int32)) < y2
      · skip
        refine OEnd.go (T' := T19) (g' := (mkF m 22 #[.val (.ref a0), .val (.ref a1), .val (.int (2 : Int32))] [])) (fun t k => ?_) ?_
        · show Steps p.tables e below (T19.setTop (mkF m 19 #[.val (.ref a0), .val (.ref a1), .val (.int (2 : Int32))] [(.int y2), (.int (x2 + (1 : Int32)))])) t
          refine XS.icmpNo X19.here hx rfl (hb hby d1_19) rfl (tlt (hc22)).2.1 ?_
          show Steps p.tables e below (T19.setTop (mkF m 22 #[.val (.ref a0), .val (.ref a1), .val (.int (2 : Int32))] [])) t
          exact k
        refine OEnd.go (T' := T19) (g' := (mkF m 23 #[.val (.ref a0), .val (.ref a1), .val (.int (2 : Int32))] [(.int (1 : Int32))])) (fun t k => ?_) ?_
        · show Steps p.tables e below (T19.setTop (mkF m 22 #[.val (.ref a0), .val (.ref a1), .val (.int (2 : Int32))] [])) t
          refine XS.iconst X19.here hx rfl (hb hby d1_22) ?_
          show Steps p.tables e below (T19.setTop (mkF m 23 #[.val (.ref a0), .val (.ref a1), .val (.int (2 : Int32))] [(.int (1 : Int32))])) t
          exact k
        exact OEnd.nar X19 hx (t := .boolean) Bd.returns (by simp) hlk (hb hby d1_23) ⟨(congrArg (fun z => some (Value.int (nar .boolean z))) (own_symm ((if_neg hc6).trans ((if_neg hc14).trans (if_pos hc22))))), N19, (own_at e19 (P := fun h => Keep h0 h [a0]) K19), (own_p (P := fun (z : Int32) => OArr Z _ a0 .int (3 : Int32) [(.int (if (x0 + (1 : Int32)) < y0 then (x0 + (1 : Int32)) else (0 : Int32))), (.int (if (x0 + (1 : Int32)) < y0 then x1 else (if (x1 + (1 : Int32)) < y1 then (x1 + (1 : Int32)) else (0 : Int32)))), (.int z)] (.int (0 : Int32))) (own_symm ((if_neg hc6).trans ((if_neg hc14).trans (if_pos hc22)))) (own_p (P := fun (z : Int32) => OArr Z _ a0 .int (3 : Int32) [(.int (if (x0 + (1 : Int32)) < y0 then (x0 + (1 : Int32)) else (0 : Int32))), (.int z), (.int (x2 + (1 : Int32)))] (.int (0 : Int32))) (own_symm ((if_neg hc6).trans (if_neg hc14))) (own_p (P := fun (z : Int32) => OArr Z _ a0 .int (3 : Int32) [(.int z), (.int (0 : Int32)), (.int (x2 + (1 : Int32)))] (.int (0 : Int32))) (own_symm (if_neg hc6)) (own_at e19 (P := fun h => OArr Z h a0 .int (3 : Int32) [(.int (0 : Int32)), (.int (0 : Int32)), (.int (x2 + (1 : Int32)))] (.int (0 : Int32))) V19))))⟩ (by decide) (by decide)
      · skip
        refine OEnd.go (T' := T19) (g' := (mkF m 24 #[.val (.ref a0), .val (.ref a1), .val (.int (2 : Int32))] [])) (fun t k => ?_) ?_
        · show Steps p.tables e below (T19.setTop (mkF m 19 #[.val (.ref a0), .val (.ref a1), .val (.int (2 : Int32))] [(.int y2), (.int (x2 + (1 : Int32)))])) t
          refine XS.icmpYes X19.here hx rfl (pc0 := 19) (pc' := 24) rfl (hb hby d1_19) rfl (flt (hc22)).2.1 (by decide) (by decide) ?_
          show Steps p.tables e below (T19.setTop (mkF m 24 #[.val (.ref a0), .val (.ref a1), .val (.int (2 : Int32))] [])) t
          exact k
        refine OEnd.go (T' := T19) (g' := (mkF m 27 #[.val (.ref a0), .val (.ref a1), .val (.int (2 : Int32))] [(.int (0 : Int32)), (.int (2 : Int32)), (.ref a0)])) (fun t k => ?_) ?_
        · show Steps p.tables e below (T19.setTop (mkF m 24 #[.val (.ref a0), .val (.ref a1), .val (.int (2 : Int32))] [])) t
          refine XS.aloadN X19.here hx rfl (hb hby d1_24) rfl rfl ?_
          show Steps p.tables e below (T19.setTop (mkF m 25 #[.val (.ref a0), .val (.ref a1), .val (.int (2 : Int32))] [(.ref a0)])) t
          refine XS.iloadN X19.here hx rfl (hb hby d1_25) rfl ?_
          show Steps p.tables e below (T19.setTop (mkF m 26 #[.val (.ref a0), .val (.ref a1), .val (.int (2 : Int32))] [(.int (2 : Int32)), (.ref a0)])) t
          refine XS.iconst X19.here hx rfl (hb hby d1_26) ?_
          show Steps p.tables e below (T19.setTop (mkF m 27 #[.val (.ref a0), .val (.ref a1), .val (.int (2 : Int32))] [(.int (0 : Int32)), (.int (2 : Int32)), (.ref a0)])) t
          exact k
        obtain ⟨kc23, cl23, Ar23, q23, S23, M23, H23, G23⟩ := id V19
        have hin23 : ¬ ((2 : Int32) < 0 ∨ cl23.slots.size ≤ ((2 : Int32)).toNatClampNeg) := inb_of S23 ⟨by decide, by decide⟩
        obtain ⟨T23, h23, X23, e23, W23, st23⟩ := stI X19 hx hZ e19 Ar23 (j := (2 : Int32)) hin23 (g := (mkF m 27 #[.val (.ref a0), .val (.ref a1), .val (.int (2 : Int32))] [(.int (0 : Int32)), (.int (2 : Int32)), (.ref a0)])) rfl rfl (hb hby d1_27)
        have N23 := Fr.snoc X23 N19 g0
        have Z23 : n0 ≤ h23.size := Nat.le_trans Z19 (Keep.of_wr W23).1
        have K23 : Keep h0 h23 [a0] := K19.wr W23 (Or.inl (List.mem_of_getElem? (i := 0) rfl))
        have V23 : OArr Z h23 a0 .int (3 : Int32) [(.int (0 : Int32)), (.int (0 : Int32)), (.int (0 : Int32))] (.int (0 : Int32)) := ⟨_, Arv.set Ar23 q23 S23 M23 H23 G23 rfl W23 2 rfl (Nat.le_of_ble_eq_true rfl)⟩
        have fc24 : OArr Z h23 a1 .int (3 : Int32) [(.int y0), (.int y1), (.int y2)] (.int (0 : Int32)) := (fc20.other W23 (Ne.symm ne01))
        refine OEnd.go (g' := (mkF m 28 #[.val (.ref a0), .val (.ref a1), .val (.int (2 : Int32))] [])) st23 ?_
        refine OEnd.go (T' := T23) (g' := (mkF m 4 #[.val (.ref a0), .val (.ref a1), .val (.int (3 : Int32))] [(.ref a0), (.int (3 : Int32))])) (fun t k => ?_) ?_
        · show Steps p.tables e below (T23.setTop (mkF m 28 #[.val (.ref a0), .val (.ref a1), .val (.int (2 : Int32))] [])) t
          refine XS.iinc X23.here hx rfl (hb hby d1_28) rfl (l' := #[.val (.ref a0), .val (.ref a1), .val (.int (3 : Int32))]) rfl ?_
          show Steps p.tables e below (T23.setTop (mkF m 31 #[.val (.ref a0), .val (.ref a1), .val (.int (3 : Int32))] [])) t
          refine XS.goto X23.here hx rfl (pc0 := 31) (pc' := 2) rfl (hb hby d1_31) (by decide) (by decide) ?_
          show Steps p.tables e below (T23.setTop (mkF m 2 #[.val (.ref a0), .val (.ref a1), .val (.int (3 : Int32))] [])) t
          refine XS.iloadN X23.here hx rfl (hb hby d1_2) rfl ?_
          show Steps p.tables e below (T23.setTop (mkF m 3 #[.val (.ref a0), .val (.ref a1), .val (.int (3 : Int32))] [(.int (3 : Int32))])) t
          refine XS.aloadN X23.here hx rfl (hb hby d1_3) rfl rfl ?_
          show Steps p.tables e below (T23.setTop (mkF m 4 #[.val (.ref a0), .val (.ref a1), .val (.int (3 : Int32))] [(.ref a0), (.int (3 : Int32))])) t
          exact k
        obtain ⟨kc25, cl25, Ar25, q25, S25, M25, H25, G25⟩ := id V23
        refine OEnd.go (T' := T23) (g' := (mkF m 5 #[.val (.ref a0), .val (.ref a1), .val (.int (3 : Int32))] [(.int (3 : Int32)), (.int (3 : Int32))])) (fun t k => ?_) ?_
        · refine X23.arraylength hx (by rw [e23]; exact Ar25.1) (State.isArrayOf_alike hZ.alike Ar25.2.1) (g := (mkF m 4 #[.val (.ref a0), .val (.ref a1), .val (.int (3 : Int32))] [(.ref a0), (.int (3 : Int32))])) rfl rfl (hb hby d1_4) _ ?_
          rw [len_of S25 M25]
          exact k
        refine OEnd.go (T' := T23) (g' := (mkF m 35 #[.val (.ref a0), .val (.ref a1), .val (.int (3 : Int32))] [(.int (0 : Int32))])) (fun t k => ?_) ?_
        · show Steps p.tables e below (T23.setTop (mkF m 5 #[.val (.ref a0), .val (.ref a1), .val (.int (3 : Int32))] [(.int (3 : Int32)), (.int (3 : Int32))])) t
          refine XS.icmpYes X23.here hx rfl (pc0 := 5) (pc' := 34) rfl (hb hby d1_5) rfl (flt ((by decide))).2.1 (by decide) (by decide) ?_
          show Steps p.tables e below (T23.setTop (mkF m 34 #[.val (.ref a0), .val (.ref a1), .val (.int (3 : Int32))] [])) t
          refine XS.iconst X23.here hx rfl (hb hby d1_34) ?_
          show Steps p.tables e below (T23.setTop (mkF m 35 #[.val (.ref a0), .val (.ref a1), .val (.int (3 : Int32))] [(.int (0 : Int32))])) t
          exact k
        exact OEnd.nar X23 hx (t := .boolean) Bd.returns (by simp) hlk (hb hby d1_35) ⟨(congrArg (fun z => some (Value.int (nar .boolean z))) (own_symm ((if_neg hc6).trans ((if_neg hc14).trans (if_neg hc22))))), N23, (own_at e23 (P := fun h => Keep h0 h [a0]) K23), (own_p (P := fun (z : Int32) => OArr Z _ a0 .int (3 : Int32) [(.int (if (x0 + (1 : Int32)) < y0 then (x0 + (1 : Int32)) else (0 : Int32))), (.int (if (x0 + (1 : Int32)) < y0 then x1 else (if (x1 + (1 : Int32)) < y1 then (x1 + (1 : Int32)) else (0 : Int32)))), (.int z)] (.int (0 : Int32))) (own_symm ((if_neg hc6).trans ((if_neg hc14).trans (if_neg hc22)))) (own_p (P := fun (z : Int32) => OArr Z _ a0 .int (3 : Int32) [(.int (if (x0 + (1 : Int32)) < y0 then (x0 + (1 : Int32)) else (0 : Int32))), (.int z), (.int (0 : Int32))] (.int (0 : Int32))) (own_symm ((if_neg hc6).trans (if_neg hc14))) (own_p (P := fun (z : Int32) => OArr Z _ a0 .int (3 : Int32) [(.int z), (.int (0 : Int32)), (.int (0 : Int32))] (.int (0 : Int32))) (own_symm (if_neg hc6)) (own_at e23 (P := fun h => OArr Z h a0 .int (3 : Int32) [(.int (0 : Int32)), (.int (0 : Int32)), (.int (0 : Int32))] (.int (0 : Int32))) V23))))⟩ (by decide) (by decide)
theorem pd___I_I_Z : parseMethodDescriptor "([I[I)Z" = some ⟨[(.array .int), (.array .int)], some .boolean⟩ := by decide +kernel
theorem pd__II_Z : parseMethodDescriptor "(II)Z" = some ⟨[.int, .int], some .boolean⟩ := by decide +kernel
def v0_11 (p0 : Int32) (p1 : Int32) (p2 : Int32) (p3 : Int32) (p4 : Int32) : Int32 := ((p1 &&& (15 : Int32)) + (1 : Int32))
def v0_21 (p0 : Int32) (p1 : Int32) (p2 : Int32) (p3 : Int32) (p4 : Int32) : Int32 := ((((p1.toUInt32 >>> ((4 : Int32) &&& 31).toUInt32).toInt32) &&& (15 : Int32)) + (1 : Int32))
def v0_32 (p0 : Int32) (p1 : Int32) (p2 : Int32) (p3 : Int32) (p4 : Int32) : Int32 := ((((p1.toUInt32 >>> ((8 : Int32) &&& 31).toUInt32).toInt32) &&& (15 : Int32)) + (1 : Int32))
def v0_41 (p0 : Int32) (p1 : Int32) (p2 : Int32) (p3 : Int32) (p4 : Int32) : Int32 := ((p2 &&& (2147483647 : Int32)) - ((p2 &&& (2147483647 : Int32)) / (v0_11 p0 p1 p2 p3 p4)) * (v0_11 p0 p1 p2 p3 p4))
def v0_50 (p0 : Int32) (p1 : Int32) (p2 : Int32) (p3 : Int32) (p4 : Int32) : Int32 := ((p3 &&& (2147483647 : Int32)) - ((p3 &&& (2147483647 : Int32)) / (v0_21 p0 p1 p2 p3 p4)) * (v0_21 p0 p1 p2 p3 p4))
def v0_60 (p0 : Int32) (p1 : Int32) (p2 : Int32) (p3 : Int32) (p4 : Int32) : Int32 := ((p4 &&& (2147483647 : Int32)) - ((p4 &&& (2147483647 : Int32)) / (v0_32 p0 p1 p2 p3 p4)) * (v0_32 p0 p1 p2 p3 p4))
def v0_326 (p0 : Int32) (p1 : Int32) (p2 : Int32) (p3 : Int32) (p4 : Int32) : Int32 := (if (f2 (0 : Int32) (1 : Int32)) = (0 : Int32) then (0 : Int32) else (1 : Int32))
def v0_217 (p0 : Int32) (p1 : Int32) (p2 : Int32) (p3 : Int32) (p4 : Int32) : Int32 := (((v0_11 p0 p1 p2 p3 p4) * (1 : Int32)) * (1 : Int32))
def v0_233 (p0 : Int32) (p1 : Int32) (p2 : Int32) (p3 : Int32) (p4 : Int32) : Int32 := ((v0_41 p0 p1 p2 p3 p4) + ((v0_11 p0 p1 p2 p3 p4) * (0 : Int32)))
def v0_242 (p0 : Int32) (p1 : Int32) (p2 : Int32) (p3 : Int32) (p4 : Int32) : Int32 := (f1_1 (v0_41 p0 p1 p2 p3 p4) (v0_11 p0 p1 p2 p3 p4))
def v0_257 (p0 : Int32) (p1 : Int32) (p2 : Int32) (p3 : Int32) (p4 : Int32) : Int32 := (if ((v0_41 p0 p1 p2 p3 p4) + (1 : Int32)) < (v0_11 p0 p1 p2 p3 p4) then ((v0_41 p0 p1 p2 p3 p4) + (1 : Int32)) else (0 : Int32))
def v0_326x (p0 : Int32) (p1 : Int32) (p2 : Int32) (p3 : Int32) (p4 : Int32) : Int32 := (if (f2 (v0_257 p0 p1 p2 p3 p4) (v0_11 p0 p1 p2 p3 p4)) = (0 : Int32) then (0 : Int32) else (if (f2 (0 : Int32) (1 : Int32)) = (0 : Int32) then (0 : Int32) else (1 : Int32)))
def v0_377 (p0 : Int32) (p1 : Int32) (p2 : Int32) (p3 : Int32) (p4 : Int32) : Int32 := (if (v0_11 p0 p1 p2 p3 p4) = (v0_11 p0 p1 p2 p3 p4) then (1 : Int32) else (0 : Int32))
def v0_393 (p0 : Int32) (p1 : Int32) (p2 : Int32) (p3 : Int32) (p4 : Int32) : Int32 := ((v0_257 p0 p1 p2 p3 p4) + ((v0_11 p0 p1 p2 p3 p4) * (0 : Int32)))
def v0_409 (p0 : Int32) (p1 : Int32) (p2 : Int32) (p3 : Int32) (p4 : Int32) : Int32 := (if ((v0_233 p0 p1 p2 p3 p4) + (1 : Int32)) = (v0_217 p0 p1 p2 p3 p4) then (1 : Int32) else (0 : Int32))
def v0_424 (p0 : Int32) (p1 : Int32) (p2 : Int32) (p3 : Int32) (p4 : Int32) : Int32 := (if (v0_409 p0 p1 p2 p3 p4) = (0 : Int32) then ((v0_233 p0 p1 p2 p3 p4) + (1 : Int32)) else (0 : Int32))
def v0_448_s0 (p0 : Int32) (p1 : Int32) (p2 : Int32) (p3 : Int32) (p4 : Int32) : Int32 := (if (v0_409 p0 p1 p2 p3 p4) = (0 : Int32) then (1 : Int32) else (0 : Int32))
def v0_217x (p0 : Int32) (p1 : Int32) (p2 : Int32) (p3 : Int32) (p4 : Int32) : Int32 := (((v0_11 p0 p1 p2 p3 p4) * (v0_21 p0 p1 p2 p3 p4)) * (1 : Int32))
def v0_233x (p0 : Int32) (p1 : Int32) (p2 : Int32) (p3 : Int32) (p4 : Int32) : Int32 := ((v0_41 p0 p1 p2 p3 p4) + ((v0_11 p0 p1 p2 p3 p4) * ((v0_50 p0 p1 p2 p3 p4) + ((v0_21 p0 p1 p2 p3 p4) * (0 : Int32)))))
def v0_242x (p0 : Int32) (p1 : Int32) (p2 : Int32) (p3 : Int32) (p4 : Int32) : Int32 := (f1_2 (v0_41 p0 p1 p2 p3 p4) (v0_50 p0 p1 p2 p3 p4) (v0_11 p0 p1 p2 p3 p4) (v0_21 p0 p1 p2 p3 p4))
def v0_273 (p0 : Int32) (p1 : Int32) (p2 : Int32) (p3 : Int32) (p4 : Int32) : Int32 := (if ((v0_41 p0 p1 p2 p3 p4) + (1 : Int32)) < (v0_11 p0 p1 p2 p3 p4) then (v0_50 p0 p1 p2 p3 p4) else (if ((v0_50 p0 p1 p2 p3 p4) + (1 : Int32)) < (v0_21 p0 p1 p2 p3 p4) then ((v0_50 p0 p1 p2 p3 p4) + (1 : Int32)) else (0 : Int32)))
def v0_326xx (p0 : Int32) (p1 : Int32) (p2 : Int32) (p3 : Int32) (p4 : Int32) : Int32 := (if (f2 (v0_257 p0 p1 p2 p3 p4) (v0_11 p0 p1 p2 p3 p4)) = (0 : Int32) then (0 : Int32) else (if (f2 (v0_273 p0 p1 p2 p3 p4) (v0_21 p0 p1 p2 p3 p4)) = (0 : Int32) then (0 : Int32) else (if (f2 (0 : Int32) (1 : Int32)) = (0 : Int32) then (0 : Int32) else (1 : Int32))))
def v0_377x (p0 : Int32) (p1 : Int32) (p2 : Int32) (p3 : Int32) (p4 : Int32) : Int32 := (if (v0_11 p0 p1 p2 p3 p4) = (v0_11 p0 p1 p2 p3 p4) then (if (v0_21 p0 p1 p2 p3 p4) = (v0_21 p0 p1 p2 p3 p4) then (1 : Int32) else (0 : Int32)) else (0 : Int32))
def v0_393x (p0 : Int32) (p1 : Int32) (p2 : Int32) (p3 : Int32) (p4 : Int32) : Int32 := ((v0_257 p0 p1 p2 p3 p4) + ((v0_11 p0 p1 p2 p3 p4) * ((v0_273 p0 p1 p2 p3 p4) + ((v0_21 p0 p1 p2 p3 p4) * (0 : Int32)))))
def v0_409x (p0 : Int32) (p1 : Int32) (p2 : Int32) (p3 : Int32) (p4 : Int32) : Int32 := (if ((v0_233x p0 p1 p2 p3 p4) + (1 : Int32)) = (v0_217x p0 p1 p2 p3 p4) then (1 : Int32) else (0 : Int32))
def v0_424x (p0 : Int32) (p1 : Int32) (p2 : Int32) (p3 : Int32) (p4 : Int32) : Int32 := (if (v0_409x p0 p1 p2 p3 p4) = (0 : Int32) then ((v0_233x p0 p1 p2 p3 p4) + (1 : Int32)) else (0 : Int32))
def v0_448_s0x (p0 : Int32) (p1 : Int32) (p2 : Int32) (p3 : Int32) (p4 : Int32) : Int32 := (if (v0_409x p0 p1 p2 p3 p4) = (0 : Int32) then (1 : Int32) else (0 : Int32))
def v0_217xx (p0 : Int32) (p1 : Int32) (p2 : Int32) (p3 : Int32) (p4 : Int32) : Int32 := (((v0_11 p0 p1 p2 p3 p4) * (v0_21 p0 p1 p2 p3 p4)) * (v0_32 p0 p1 p2 p3 p4))
def v0_233xx (p0 : Int32) (p1 : Int32) (p2 : Int32) (p3 : Int32) (p4 : Int32) : Int32 := ((v0_41 p0 p1 p2 p3 p4) + ((v0_11 p0 p1 p2 p3 p4) * ((v0_50 p0 p1 p2 p3 p4) + ((v0_21 p0 p1 p2 p3 p4) * (v0_60 p0 p1 p2 p3 p4)))))
def v0_242xx (p0 : Int32) (p1 : Int32) (p2 : Int32) (p3 : Int32) (p4 : Int32) : Int32 := (f1_3 (v0_41 p0 p1 p2 p3 p4) (v0_50 p0 p1 p2 p3 p4) (v0_60 p0 p1 p2 p3 p4) (v0_11 p0 p1 p2 p3 p4) (v0_21 p0 p1 p2 p3 p4) (v0_32 p0 p1 p2 p3 p4))
def v0_289 (p0 : Int32) (p1 : Int32) (p2 : Int32) (p3 : Int32) (p4 : Int32) : Int32 := (if ((v0_41 p0 p1 p2 p3 p4) + (1 : Int32)) < (v0_11 p0 p1 p2 p3 p4) then (v0_60 p0 p1 p2 p3 p4) else (if ((v0_50 p0 p1 p2 p3 p4) + (1 : Int32)) < (v0_21 p0 p1 p2 p3 p4) then (v0_60 p0 p1 p2 p3 p4) else (if ((v0_60 p0 p1 p2 p3 p4) + (1 : Int32)) < (v0_32 p0 p1 p2 p3 p4) then ((v0_60 p0 p1 p2 p3 p4) + (1 : Int32)) else (0 : Int32))))
def v0_326xxx (p0 : Int32) (p1 : Int32) (p2 : Int32) (p3 : Int32) (p4 : Int32) : Int32 := (if (f2 (v0_257 p0 p1 p2 p3 p4) (v0_11 p0 p1 p2 p3 p4)) = (0 : Int32) then (0 : Int32) else (if (f2 (v0_273 p0 p1 p2 p3 p4) (v0_21 p0 p1 p2 p3 p4)) = (0 : Int32) then (0 : Int32) else (if (f2 (v0_289 p0 p1 p2 p3 p4) (v0_32 p0 p1 p2 p3 p4)) = (0 : Int32) then (0 : Int32) else (1 : Int32))))
def v0_377xx (p0 : Int32) (p1 : Int32) (p2 : Int32) (p3 : Int32) (p4 : Int32) : Int32 := (if (v0_11 p0 p1 p2 p3 p4) = (v0_11 p0 p1 p2 p3 p4) then (if (v0_21 p0 p1 p2 p3 p4) = (v0_21 p0 p1 p2 p3 p4) then (if (v0_32 p0 p1 p2 p3 p4) = (v0_32 p0 p1 p2 p3 p4) then (1 : Int32) else (0 : Int32)) else (0 : Int32)) else (0 : Int32))
def v0_393xx (p0 : Int32) (p1 : Int32) (p2 : Int32) (p3 : Int32) (p4 : Int32) : Int32 := ((v0_257 p0 p1 p2 p3 p4) + ((v0_11 p0 p1 p2 p3 p4) * ((v0_273 p0 p1 p2 p3 p4) + ((v0_21 p0 p1 p2 p3 p4) * (v0_289 p0 p1 p2 p3 p4)))))
def v0_409xx (p0 : Int32) (p1 : Int32) (p2 : Int32) (p3 : Int32) (p4 : Int32) : Int32 := (if ((v0_233xx p0 p1 p2 p3 p4) + (1 : Int32)) = (v0_217xx p0 p1 p2 p3 p4) then (1 : Int32) else (0 : Int32))
def v0_424xx (p0 : Int32) (p1 : Int32) (p2 : Int32) (p3 : Int32) (p4 : Int32) : Int32 := (if (v0_409xx p0 p1 p2 p3 p4) = (0 : Int32) then ((v0_233xx p0 p1 p2 p3 p4) + (1 : Int32)) else (0 : Int32))
def v0_448_s0xx (p0 : Int32) (p1 : Int32) (p2 : Int32) (p3 : Int32) (p4 : Int32) : Int32 := (if (v0_409xx p0 p1 p2 p3 p4) = (0 : Int32) then (1 : Int32) else (0 : Int32))
def la0_0 (p0 : Int32) (p1 : Int32) (p2 : Int32) (p3 : Int32) (p4 : Int32) : Array Slot := #[.val (.int p0), .val (.int p1), .val (.int p2), .val (.int p3), .val (.int p4), .val (.int (p0 &&& (3 : Int32))), .unset, .unset, .unset, .unset, .unset, .unset, .unset, .unset, .unset, .unset, .unset, .unset, .unset, .unset, .unset, .unset, .unset, .unset, .unset, .unset, .unset, .unset, .unset, .unset, .unset]
def la0_1 (p0 : Int32) (p1 : Int32) (p2 : Int32) (p3 : Int32) (p4 : Int32) : Array Slot := #[.val (.int p0), .val (.int p1), .val (.int p2), .val (.int p3), .val (.int p4), .val (.int (p0 &&& (3 : Int32))), .val (.int (v0_11 p0 p1 p2 p3 p4)), .unset, .unset, .unset, .unset, .unset, .unset, .unset, .unset, .unset, .unset, .unset, .unset, .unset, .unset, .unset, .unset, .unset, .unset, .unset, .unset, .unset, .unset, .unset, .unset]
def la0_2 (p0 : Int32) (p1 : Int32) (p2 : Int32) (p3 : Int32) (p4 : Int32) : Array Slot := #[.val (.int p0), .val (.int p1), .val (.int p2), .val (.int p3), .val (.int p4), .val (.int (p0 &&& (3 : Int32))), .val (.int (v0_11 p0 p1 p2 p3 p4)), .val (.int (v0_21 p0 p1 p2 p3 p4)), .unset, .unset, .unset, .unset, .unset, .unset, .unset, .unset, .unset, .unset, .unset, .unset, .unset, .unset, .unset, .unset, .unset, .unset, .unset, .unset, .unset, .unset, .unset]
def la0_3 (p0 : Int32) (p1 : Int32) (p2 : Int32) (p3 : Int32) (p4 : Int32) : Array Slot := #[.val (.int p0), .val (.int p1), .val (.int p2), .val (.int p3), .val (.int p4), .val (.int (p0 &&& (3 : Int32))), .val (.int (v0_11 p0 p1 p2 p3 p4)), .val (.int (v0_21 p0 p1 p2 p3 p4)), .val (.int (v0_32 p0 p1 p2 p3 p4)), .unset, .unset, .unset, .unset, .unset, .unset, .unset, .unset, .unset, .unset, .unset, .unset, .unset, .unset, .unset, .unset, .unset, .unset, .unset, .unset, .unset, .unset]
def la0_4 (p0 : Int32) (p1 : Int32) (p2 : Int32) (p3 : Int32) (p4 : Int32) : Array Slot := #[.val (.int p0), .val (.int p1), .val (.int p2), .val (.int p3), .val (.int p4), .val (.int (p0 &&& (3 : Int32))), .val (.int (v0_11 p0 p1 p2 p3 p4)), .val (.int (v0_21 p0 p1 p2 p3 p4)), .val (.int (v0_32 p0 p1 p2 p3 p4)), .val (.int (v0_41 p0 p1 p2 p3 p4)), .unset, .unset, .unset, .unset, .unset, .unset, .unset, .unset, .unset, .unset, .unset, .unset, .unset, .unset, .unset, .unset, .unset, .unset, .unset, .unset, .unset]
def la0_5 (p0 : Int32) (p1 : Int32) (p2 : Int32) (p3 : Int32) (p4 : Int32) : Array Slot := #[.val (.int p0), .val (.int p1), .val (.int p2), .val (.int p3), .val (.int p4), .val (.int (p0 &&& (3 : Int32))), .val (.int (v0_11 p0 p1 p2 p3 p4)), .val (.int (v0_21 p0 p1 p2 p3 p4)), .val (.int (v0_32 p0 p1 p2 p3 p4)), .val (.int (v0_41 p0 p1 p2 p3 p4)), .val (.int (v0_50 p0 p1 p2 p3 p4)), .unset, .unset, .unset, .unset, .unset, .unset, .unset, .unset, .unset, .unset, .unset, .unset, .unset, .unset, .unset, .unset, .unset, .unset, .unset, .unset]
def la0_6 (p0 : Int32) (p1 : Int32) (p2 : Int32) (p3 : Int32) (p4 : Int32) : Array Slot := #[.val (.int p0), .val (.int p1), .val (.int p2), .val (.int p3), .val (.int p4), .val (.int (p0 &&& (3 : Int32))), .val (.int (v0_11 p0 p1 p2 p3 p4)), .val (.int (v0_21 p0 p1 p2 p3 p4)), .val (.int (v0_32 p0 p1 p2 p3 p4)), .val (.int (v0_41 p0 p1 p2 p3 p4)), .val (.int (v0_50 p0 p1 p2 p3 p4)), .val (.int (v0_60 p0 p1 p2 p3 p4)), .unset, .unset, .unset, .unset, .unset, .unset, .unset, .unset, .unset, .unset, .unset, .unset, .unset, .unset, .unset, .unset, .unset, .unset, .unset]
def la0_7 (p0 : Int32) (p1 : Int32) (p2 : Int32) (p3 : Int32) (p4 : Int32) : Array Slot := #[.val (.int p0), .val (.int p1), .val (.int p2), .val (.int p3), .val (.int p4), .val (.int (0 : Int32)), .val (.int (v0_11 p0 p1 p2 p3 p4)), .val (.int (v0_21 p0 p1 p2 p3 p4)), .val (.int (v0_32 p0 p1 p2 p3 p4)), .val (.int (v0_41 p0 p1 p2 p3 p4)), .val (.int (v0_50 p0 p1 p2 p3 p4)), .val (.int (v0_60 p0 p1 p2 p3 p4)), .unset, .unset, .unset, .unset, .unset, .unset, .unset, .unset, .unset, .unset, .unset, .unset, .unset, .unset, .unset, .unset, .unset, .unset, .unset]
def la0_8 (p0 : Int32) (p1 : Int32) (p2 : Int32) (p3 : Int32) (p4 : Int32) (b0_64 : Addr) : Array Slot := #[.val (.int p0), .val (.int p1), .val (.int p2), .val (.int p3), .val (.int p4), .val (.int (0 : Int32)), .val (.int (v0_11 p0 p1 p2 p3 p4)), .val (.int (v0_21 p0 p1 p2 p3 p4)), .val (.int (v0_32 p0 p1 p2 p3 p4)), .val (.int (v0_41 p0 p1 p2 p3 p4)), .val (.int (v0_50 p0 p1 p2 p3 p4)), .val (.int (v0_60 p0 p1 p2 p3 p4)), .val (.ref b0_64), .unset, .unset, .unset, .unset, .unset, .unset, .unset, .unset, .unset, .unset, .unset, .unset, .unset, .unset, .unset, .unset, .unset, .unset]
def la0_9 (p0 : Int32) (p1 : Int32) (p2 : Int32) (p3 : Int32) (p4 : Int32) (b0_64 : Addr) (b0_70 : Addr) : Array Slot := #[.val (.int p0), .val (.int p1), .val (.int p2), .val (.int p3), .val (.int p4), .val (.int (0 : Int32)), .val (.int (v0_11 p0 p1 p2 p3 p4)), .val (.int (v0_21 p0 p1 p2 p3 p4)), .val (.int (v0_32 p0 p1 p2 p3 p4)), .val (.int (v0_41 p0 p1 p2 p3 p4)), .val (.int (v0_50 p0 p1 p2 p3 p4)), .val (.int (v0_60 p0 p1 p2 p3 p4)), .val (.ref b0_64), .val (.ref b0_70), .unset, .unset, .unset, .unset, .unset, .unset, .unset, .unset, .unset, .unset, .unset, .unset, .unset, .unset, .unset, .unset, .unset]
def la0_10 (p0 : Int32) (p1 : Int32) (p2 : Int32) (p3 : Int32) (p4 : Int32) (b0_64 : Addr) (b0_70 : Addr) : Array Slot := #[.val (.int p0), .val (.int p1), .val (.int p2), .val (.int p3), .val (.int p4), .val (.int (0 : Int32)), .val (.int (v0_11 p0 p1 p2 p3 p4)), .val (.int (v0_21 p0 p1 p2 p3 p4)), .val (.int (v0_32 p0 p1 p2 p3 p4)), .val (.int (v0_41 p0 p1 p2 p3 p4)), .val (.int (v0_50 p0 p1 p2 p3 p4)), .val (.int (v0_60 p0 p1 p2 p3 p4)), .val (.ref b0_64), .val (.ref b0_70), .val (.int (1 : Int32)), .unset, .unset, .unset, .unset, .unset, .unset, .unset, .unset, .unset, .unset, .unset, .unset, .unset, .unset, .unset, .unset]
def la0_11 (p0 : Int32) (p1 : Int32) (p2 : Int32) (p3 : Int32) (p4 : Int32) (b0_64 : Addr) (b0_70 : Addr) : Array Slot := #[.val (.int p0), .val (.int p1), .val (.int p2), .val (.int p3), .val (.int p4), .val (.int (0 : Int32)), .val (.int (v0_11 p0 p1 p2 p3 p4)), .val (.int (v0_21 p0 p1 p2 p3 p4)), .val (.int (v0_32 p0 p1 p2 p3 p4)), .val (.int (v0_41 p0 p1 p2 p3 p4)), .val (.int (v0_50 p0 p1 p2 p3 p4)), .val (.int (v0_60 p0 p1 p2 p3 p4)), .val (.ref b0_64), .val (.ref b0_70), .val (.int (1 : Int32)), .val (.int (1 : Int32)), .unset, .unset, .unset, .unset, .unset, .unset, .unset, .unset, .unset, .unset, .unset, .unset, .unset, .unset, .unset]
def la0_12 (p0 : Int32) (p1 : Int32) (p2 : Int32) (p3 : Int32) (p4 : Int32) (b0_64 : Addr) (b0_70 : Addr) : Array Slot := #[.val (.int p0), .val (.int p1), .val (.int p2), .val (.int p3), .val (.int p4), .val (.int (0 : Int32)), .val (.int (v0_11 p0 p1 p2 p3 p4)), .val (.int (v0_21 p0 p1 p2 p3 p4)), .val (.int (v0_32 p0 p1 p2 p3 p4)), .val (.int (v0_41 p0 p1 p2 p3 p4)), .val (.int (v0_50 p0 p1 p2 p3 p4)), .val (.int (v0_60 p0 p1 p2 p3 p4)), .val (.ref b0_64), .val (.ref b0_70), .val (.int (1 : Int32)), .val (.int (1 : Int32)), .val (.int (1 : Int32)), .unset, .unset, .unset, .unset, .unset, .unset, .unset, .unset, .unset, .unset, .unset, .unset, .unset, .unset]
def la0_13 (p0 : Int32) (p1 : Int32) (p2 : Int32) (p3 : Int32) (p4 : Int32) (b0_64 : Addr) (b0_70 : Addr) : Array Slot := #[.val (.int p0), .val (.int p1), .val (.int p2), .val (.int p3), .val (.int p4), .val (.int (0 : Int32)), .val (.int (v0_11 p0 p1 p2 p3 p4)), .val (.int (v0_21 p0 p1 p2 p3 p4)), .val (.int (v0_32 p0 p1 p2 p3 p4)), .val (.int (v0_41 p0 p1 p2 p3 p4)), .val (.int (v0_50 p0 p1 p2 p3 p4)), .val (.int (v0_60 p0 p1 p2 p3 p4)), .val (.ref b0_64), .val (.ref b0_70), .val (.int (1 : Int32)), .val (.int (1 : Int32)), .val (.int (1 : Int32)), .val (.int (0 : Int32)), .unset, .unset, .unset, .unset, .unset, .unset, .unset, .unset, .unset, .unset, .unset, .unset, .unset]
def la0_14 (p0 : Int32) (p1 : Int32) (p2 : Int32) (p3 : Int32) (p4 : Int32) (b0_64 : Addr) (b0_70 : Addr) : Array Slot := #[.val (.int p0), .val (.int p1), .val (.int p2), .val (.int p3), .val (.int p4), .val (.int (0 : Int32)), .val (.int (v0_11 p0 p1 p2 p3 p4)), .val (.int (v0_21 p0 p1 p2 p3 p4)), .val (.int (v0_32 p0 p1 p2 p3 p4)), .val (.int (v0_41 p0 p1 p2 p3 p4)), .val (.int (v0_50 p0 p1 p2 p3 p4)), .val (.int (v0_60 p0 p1 p2 p3 p4)), .val (.ref b0_64), .val (.ref b0_70), .val (.int (1 : Int32)), .val (.int (1 : Int32)), .val (.int (1 : Int32)), .val (.int (0 : Int32)), .val (.int (0 : Int32)), .unset, .unset, .unset, .unset, .unset, .unset, .unset, .unset, .unset, .unset, .unset, .unset]
def la0_15 (p0 : Int32) (p1 : Int32) (p2 : Int32) (p3 : Int32) (p4 : Int32) (b0_64 : Addr) (b0_70 : Addr) : Array Slot := #[.val (.int p0), .val (.int p1), .val (.int p2), .val (.int p3), .val (.int p4), .val (.int (0 : Int32)), .val (.int (v0_11 p0 p1 p2 p3 p4)), .val (.int (v0_21 p0 p1 p2 p3 p4)), .val (.int (v0_32 p0 p1 p2 p3 p4)), .val (.int (v0_41 p0 p1 p2 p3 p4)), .val (.int (v0_50 p0 p1 p2 p3 p4)), .val (.int (v0_60 p0 p1 p2 p3 p4)), .val (.ref b0_64), .val (.ref b0_70), .val (.int (1 : Int32)), .val (.int (1 : Int32)), .val (.int (1 : Int32)), .val (.int (0 : Int32)), .val (.int (0 : Int32)), .val (.int (0 : Int32)), .unset, .unset, .unset, .unset, .unset, .unset, .unset, .unset, .unset, .unset, .unset]
def la0_16 (p0 : Int32) (p1 : Int32) (p2 : Int32) (p3 : Int32) (p4 : Int32) (b0_64 : Addr) (b0_70 : Addr) : Array Slot := #[.val (.int p0), .val (.int p1), .val (.int p2), .val (.int p3), .val (.int p4), .val (.int (0 : Int32)), .val (.int (v0_11 p0 p1 p2 p3 p4)), .val (.int (v0_21 p0 p1 p2 p3 p4)), .val (.int (v0_32 p0 p1 p2 p3 p4)), .val (.int (v0_41 p0 p1 p2 p3 p4)), .val (.int (v0_50 p0 p1 p2 p3 p4)), .val (.int (v0_60 p0 p1 p2 p3 p4)), .val (.ref b0_64), .val (.ref b0_70), .val (.int (1 : Int32)), .val (.int (1 : Int32)), .val (.int (1 : Int32)), .val (.int (0 : Int32)), .val (.int (0 : Int32)), .val (.int (0 : Int32)), .val (.int (1 : Int32)), .unset, .unset, .unset, .unset, .unset, .unset, .unset, .unset, .unset, .unset]
def la0_17 (p0 : Int32) (p1 : Int32) (p2 : Int32) (p3 : Int32) (p4 : Int32) (b0_64 : Addr) (b0_70 : Addr) : Array Slot := #[.val (.int p0), .val (.int p1), .val (.int p2), .val (.int p3), .val (.int p4), .val (.int (0 : Int32)), .val (.int (v0_11 p0 p1 p2 p3 p4)), .val (.int (v0_21 p0 p1 p2 p3 p4)), .val (.int (v0_32 p0 p1 p2 p3 p4)), .val (.int (v0_41 p0 p1 p2 p3 p4)), .val (.int (v0_50 p0 p1 p2 p3 p4)), .val (.int (v0_60 p0 p1 p2 p3 p4)), .val (.ref b0_64), .val (.ref b0_70), .val (.int (1 : Int32)), .val (.int (1 : Int32)), .val (.int (1 : Int32)), .val (.int (0 : Int32)), .val (.int (0 : Int32)), .val (.int (0 : Int32)), .val (.int (1 : Int32)), .val (.int (0 : Int32)), .unset, .unset, .unset, .unset, .unset, .unset, .unset, .unset, .unset]
def la0_18 (p0 : Int32) (p1 : Int32) (p2 : Int32) (p3 : Int32) (p4 : Int32) (b0_64 : Addr) (b0_70 : Addr) : Array Slot := #[.val (.int p0), .val (.int p1), .val (.int p2), .val (.int p3), .val (.int p4), .val (.int (0 : Int32)), .val (.int (v0_11 p0 p1 p2 p3 p4)), .val (.int (v0_21 p0 p1 p2 p3 p4)), .val (.int (v0_32 p0 p1 p2 p3 p4)), .val (.int (v0_41 p0 p1 p2 p3 p4)), .val (.int (v0_50 p0 p1 p2 p3 p4)), .val (.int (v0_60 p0 p1 p2 p3 p4)), .val (.ref b0_64), .val (.ref b0_70), .val (.int (1 : Int32)), .val (.int (1 : Int32)), .val (.int (1 : Int32)), .val (.int (0 : Int32)), .val (.int (0 : Int32)), .val (.int (0 : Int32)), .val (.int (1 : Int32)), .val (.int (0 : Int32)), .val (.int f1_0), .unset, .unset, .unset, .unset, .unset, .unset, .unset, .unset]
def la0_19 (p0 : Int32) (p1 : Int32) (p2 : Int32) (p3 : Int32) (p4 : Int32) (b0_64 : Addr) (b0_70 : Addr) : Array Slot := #[.val (.int p0), .val (.int p1), .val (.int p2), .val (.int p3), .val (.int p4), .val (.int (0 : Int32)), .val (.int (v0_11 p0 p1 p2 p3 p4)), .val (.int (v0_21 p0 p1 p2 p3 p4)), .val (.int (v0_32 p0 p1 p2 p3 p4)), .val (.int (v0_41 p0 p1 p2 p3 p4)), .val (.int (v0_50 p0 p1 p2 p3 p4)), .val (.int (v0_60 p0 p1 p2 p3 p4)), .val (.ref b0_64), .val (.ref b0_70), .val (.int (1 : Int32)), .val (.int (1 : Int32)), .val (.int (1 : Int32)), .val (.int (0 : Int32)), .val (.int (0 : Int32)), .val (.int (0 : Int32)), .val (.int (1 : Int32)), .val (.int (0 : Int32)), .val (.int f1_0), .val (.int (0 : Int32)), .unset, .unset, .unset, .unset, .unset, .unset, .unset]
def la0_20 (p0 : Int32) (p1 : Int32) (p2 : Int32) (p3 : Int32) (p4 : Int32) (b0_64 : Addr) (b0_70 : Addr) : Array Slot := #[.val (.int p0), .val (.int p1), .val (.int p2), .val (.int p3), .val (.int p4), .val (.int (0 : Int32)), .val (.int (v0_11 p0 p1 p2 p3 p4)), .val (.int (v0_21 p0 p1 p2 p3 p4)), .val (.int (v0_32 p0 p1 p2 p3 p4)), .val (.int (v0_41 p0 p1 p2 p3 p4)), .val (.int (v0_50 p0 p1 p2 p3 p4)), .val (.int (v0_60 p0 p1 p2 p3 p4)), .val (.ref b0_64), .val (.ref b0_70), .val (.int (1 : Int32)), .val (.int (1 : Int32)), .val (.int (1 : Int32)), .val (.int (0 : Int32)), .val (.int (0 : Int32)), .val (.int (0 : Int32)), .val (.int (1 : Int32)), .val (.int (0 : Int32)), .val (.int f1_0), .val (.int (0 : Int32)), .val (.int (0 : Int32)), .unset, .unset, .unset, .unset, .unset, .unset]
def la0_21 (p0 : Int32) (p1 : Int32) (p2 : Int32) (p3 : Int32) (p4 : Int32) (b0_64 : Addr) (b0_70 : Addr) : Array Slot := #[.val (.int p0), .val (.int p1), .val (.int p2), .val (.int p3), .val (.int p4), .val (.int (0 : Int32)), .val (.int (v0_11 p0 p1 p2 p3 p4)), .val (.int (v0_21 p0 p1 p2 p3 p4)), .val (.int (v0_32 p0 p1 p2 p3 p4)), .val (.int (v0_41 p0 p1 p2 p3 p4)), .val (.int (v0_50 p0 p1 p2 p3 p4)), .val (.int (v0_60 p0 p1 p2 p3 p4)), .val (.ref b0_64), .val (.ref b0_70), .val (.int (1 : Int32)), .val (.int (1 : Int32)), .val (.int (1 : Int32)), .val (.int (0 : Int32)), .val (.int (0 : Int32)), .val (.int (0 : Int32)), .val (.int (1 : Int32)), .val (.int (0 : Int32)), .val (.int f1_0), .val (.int (0 : Int32)), .val (.int (0 : Int32)), .val (.int (0 : Int32)), .unset, .unset, .unset, .unset, .unset]
def la0_22 (p0 : Int32) (p1 : Int32) (p2 : Int32) (p3 : Int32) (p4 : Int32) (b0_64 : Addr) (b0_70 : Addr) : Array Slot := #[.val (.int p0), .val (.int p1), .val (.int p2), .val (.int p3), .val (.int p4), .val (.int (0 : Int32)), .val (.int (v0_11 p0 p1 p2 p3 p4)), .val (.int (v0_21 p0 p1 p2 p3 p4)), .val (.int (v0_32 p0 p1 p2 p3 p4)), .val (.int (v0_41 p0 p1 p2 p3 p4)), .val (.int (v0_50 p0 p1 p2 p3 p4)), .val (.int (v0_60 p0 p1 p2 p3 p4)), .val (.ref b0_64), .val (.ref b0_70), .val (.int (1 : Int32)), .val (.int (1 : Int32)), .val (.int (1 : Int32)), .val (.int (0 : Int32)), .val (.int (0 : Int32)), .val (.int (0 : Int32)), .val (.int (1 : Int32)), .val (.int (0 : Int32)), .val (.int f1_0), .val (.int (0 : Int32)), .val (.int (0 : Int32)), .val (.int (0 : Int32)), .val (.int (v0_326 p0 p1 p2 p3 p4)), .unset, .unset, .unset, .unset]
def la0_23 (p0 : Int32) (p1 : Int32) (p2 : Int32) (p3 : Int32) (p4 : Int32) (b0_64 : Addr) (b0_70 : Addr) : Array Slot := #[.val (.int p0), .val (.int p1), .val (.int p2), .val (.int p3), .val (.int p4), .val (.int (0 : Int32)), .val (.int (v0_11 p0 p1 p2 p3 p4)), .val (.int (v0_21 p0 p1 p2 p3 p4)), .val (.int (v0_32 p0 p1 p2 p3 p4)), .val (.int (v0_41 p0 p1 p2 p3 p4)), .val (.int (v0_50 p0 p1 p2 p3 p4)), .val (.int (v0_60 p0 p1 p2 p3 p4)), .val (.ref b0_64), .val (.ref b0_70), .val (.int (1 : Int32)), .val (.int (1 : Int32)), .val (.int (1 : Int32)), .val (.int (0 : Int32)), .val (.int (0 : Int32)), .val (.int (0 : Int32)), .val (.int (1 : Int32)), .val (.int (0 : Int32)), .val (.int f1_0), .val (.int (0 : Int32)), .val (.int (0 : Int32)), .val (.int (0 : Int32)), .val (.int (v0_326 p0 p1 p2 p3 p4)), .val (.int (1 : Int32)), .unset, .unset, .unset]
def la0_24 (p0 : Int32) (p1 : Int32) (p2 : Int32) (p3 : Int32) (p4 : Int32) (b0_64 : Addr) (b0_70 : Addr) : Array Slot := #[.val (.int p0), .val (.int p1), .val (.int p2), .val (.int p3), .val (.int p4), .val (.int (0 : Int32)), .val (.int (v0_11 p0 p1 p2 p3 p4)), .val (.int (v0_21 p0 p1 p2 p3 p4)), .val (.int (v0_32 p0 p1 p2 p3 p4)), .val (.int (v0_41 p0 p1 p2 p3 p4)), .val (.int (v0_50 p0 p1 p2 p3 p4)), .val (.int (v0_60 p0 p1 p2 p3 p4)), .val (.ref b0_64), .val (.ref b0_70), .val (.int (1 : Int32)), .val (.int (1 : Int32)), .val (.int (1 : Int32)), .val (.int (0 : Int32)), .val (.int (0 : Int32)), .val (.int (0 : Int32)), .val (.int (1 : Int32)), .val (.int (0 : Int32)), .val (.int f1_0), .val (.int (0 : Int32)), .val (.int (0 : Int32)), .val (.int (0 : Int32)), .val (.int (v0_326 p0 p1 p2 p3 p4)), .val (.int (1 : Int32)), .val (.int (0 : Int32)), .unset, .unset]
def la0_25 (p0 : Int32) (p1 : Int32) (p2 : Int32) (p3 : Int32) (p4 : Int32) (b0_64 : Addr) (b0_70 : Addr) : Array Slot := #[.val (.int p0), .val (.int p1), .val (.int p2), .val (.int p3), .val (.int p4), .val (.int (0 : Int32)), .val (.int (v0_11 p0 p1 p2 p3 p4)), .val (.int (v0_21 p0 p1 p2 p3 p4)), .val (.int (v0_32 p0 p1 p2 p3 p4)), .val (.int (v0_41 p0 p1 p2 p3 p4)), .val (.int (v0_50 p0 p1 p2 p3 p4)), .val (.int (v0_60 p0 p1 p2 p3 p4)), .val (.ref b0_64), .val (.ref b0_70), .val (.int (1 : Int32)), .val (.int (1 : Int32)), .val (.int (1 : Int32)), .val (.int (0 : Int32)), .val (.int (0 : Int32)), .val (.int (0 : Int32)), .val (.int (1 : Int32)), .val (.int (0 : Int32)), .val (.int f1_0), .val (.int (0 : Int32)), .val (.int (0 : Int32)), .val (.int (0 : Int32)), .val (.int (v0_326 p0 p1 p2 p3 p4)), .val (.int (1 : Int32)), .val (.int (0 : Int32)), .val (.int (1 : Int32)), .unset]
def la0_26 (p0 : Int32) (p1 : Int32) (p2 : Int32) (p3 : Int32) (p4 : Int32) (b0_64 : Addr) (b0_70 : Addr) : Array Slot := #[.val (.int p0), .val (.int p1), .val (.int p2), .val (.int p3), .val (.int p4), .val (.int (0 : Int32)), .val (.int (v0_11 p0 p1 p2 p3 p4)), .val (.int (v0_21 p0 p1 p2 p3 p4)), .val (.int (v0_32 p0 p1 p2 p3 p4)), .val (.int (v0_41 p0 p1 p2 p3 p4)), .val (.int (v0_50 p0 p1 p2 p3 p4)), .val (.int (v0_60 p0 p1 p2 p3 p4)), .val (.ref b0_64), .val (.ref b0_70), .val (.int (1 : Int32)), .val (.int (1 : Int32)), .val (.int (1 : Int32)), .val (.int (0 : Int32)), .val (.int (0 : Int32)), .val (.int (0 : Int32)), .val (.int (1 : Int32)), .val (.int (0 : Int32)), .val (.int f1_0), .val (.int (0 : Int32)), .val (.int (0 : Int32)), .val (.int (0 : Int32)), .val (.int (v0_326 p0 p1 p2 p3 p4)), .val (.int (1 : Int32)), .val (.int (0 : Int32)), .val (.int (1 : Int32)), .val (.int (0 : Int32))]
def la0_27 (p0 : Int32) (p1 : Int32) (p2 : Int32) (p3 : Int32) (p4 : Int32) : Array Slot := #[.val (.int p0), .val (.int p1), .val (.int p2), .val (.int p3), .val (.int p4), .val (.int (1 : Int32)), .val (.int (v0_11 p0 p1 p2 p3 p4)), .val (.int (v0_21 p0 p1 p2 p3 p4)), .val (.int (v0_32 p0 p1 p2 p3 p4)), .val (.int (v0_41 p0 p1 p2 p3 p4)), .val (.int (v0_50 p0 p1 p2 p3 p4)), .val (.int (v0_60 p0 p1 p2 p3 p4)), .unset, .unset, .unset, .unset, .unset, .unset, .unset, .unset, .unset, .unset, .unset, .unset, .unset, .unset, .unset, .unset, .unset, .unset, .unset]
def la0_28 (p0 : Int32) (p1 : Int32) (p2 : Int32) (p3 : Int32) (p4 : Int32) (b0_64 : Addr) : Array Slot := #[.val (.int p0), .val (.int p1), .val (.int p2), .val (.int p3), .val (.int p4), .val (.int (1 : Int32)), .val (.int (v0_11 p0 p1 p2 p3 p4)), .val (.int (v0_21 p0 p1 p2 p3 p4)), .val (.int (v0_32 p0 p1 p2 p3 p4)), .val (.int (v0_41 p0 p1 p2 p3 p4)), .val (.int (v0_50 p0 p1 p2 p3 p4)), .val (.int (v0_60 p0 p1 p2 p3 p4)), .val (.ref b0_64), .unset, .unset, .unset, .unset, .unset, .unset, .unset, .unset, .unset, .unset, .unset, .unset, .unset, .unset, .unset, .unset, .unset, .unset]
def la0_29 (p0 : Int32) (p1 : Int32) (p2 : Int32) (p3 : Int32) (p4 : Int32) (b0_64 : Addr) (b0_70 : Addr) : Array Slot := #[.val (.int p0), .val (.int p1), .val (.int p2), .val (.int p3), .val (.int p4), .val (.int (1 : Int32)), .val (.int (v0_11 p0 p1 p2 p3 p4)), .val (.int (v0_21 p0 p1 p2 p3 p4)), .val (.int (v0_32 p0 p1 p2 p3 p4)), .val (.int (v0_41 p0 p1 p2 p3 p4)), .val (.int (v0_50 p0 p1 p2 p3 p4)), .val (.int (v0_60 p0 p1 p2 p3 p4)), .val (.ref b0_64), .val (.ref b0_70), .unset, .unset, .unset, .unset, .unset, .unset, .unset, .unset, .unset, .unset, .unset, .unset, .unset, .unset, .unset, .unset, .unset]
def la0_30 (p0 : Int32) (p1 : Int32) (p2 : Int32) (p3 : Int32) (p4 : Int32) (b0_64 : Addr) (b0_70 : Addr) : Array Slot := #[.val (.int p0), .val (.int p1), .val (.int p2), .val (.int p3), .val (.int p4), .val (.int (1 : Int32)), .val (.int (v0_11 p0 p1 p2 p3 p4)), .val (.int (v0_21 p0 p1 p2 p3 p4)), .val (.int (v0_32 p0 p1 p2 p3 p4)), .val (.int (v0_41 p0 p1 p2 p3 p4)), .val (.int (v0_50 p0 p1 p2 p3 p4)), .val (.int (v0_60 p0 p1 p2 p3 p4)), .val (.ref b0_64), .val (.ref b0_70), .val (.int (v0_11 p0 p1 p2 p3 p4)), .unset, .unset, .unset, .unset, .unset, .unset, .unset, .unset, .unset, .unset, .unset, .unset, .unset, .unset, .unset, .unset]
def la0_31 (p0 : Int32) (p1 : Int32) (p2 : Int32) (p3 : Int32) (p4 : Int32) (b0_64 : Addr) (b0_70 : Addr) : Array Slot := #[.val (.int p0), .val (.int p1), .val (.int p2), .val (.int p3), .val (.int p4), .val (.int (1 : Int32)), .val (.int (v0_11 p0 p1 p2 p3 p4)), .val (.int (v0_21 p0 p1 p2 p3 p4)), .val (.int (v0_32 p0 p1 p2 p3 p4)), .val (.int (v0_41 p0 p1 p2 p3 p4)), .val (.int (v0_50 p0 p1 p2 p3 p4)), .val (.int (v0_60 p0 p1 p2 p3 p4)), .val (.ref b0_64), .val (.ref b0_70), .val (.int (v0_11 p0 p1 p2 p3 p4)), .val (.int (1 : Int32)), .unset, .unset, .unset, .unset, .unset, .unset, .unset, .unset, .unset, .unset, .unset, .unset, .unset, .unset, .unset]
def la0_32 (p0 : Int32) (p1 : Int32) (p2 : Int32) (p3 : Int32) (p4 : Int32) (b0_64 : Addr) (b0_70 : Addr) : Array Slot := #[.val (.int p0), .val (.int p1), .val (.int p2), .val (.int p3), .val (.int p4), .val (.int (1 : Int32)), .val (.int (v0_11 p0 p1 p2 p3 p4)), .val (.int (v0_21 p0 p1 p2 p3 p4)), .val (.int (v0_32 p0 p1 p2 p3 p4)), .val (.int (v0_41 p0 p1 p2 p3 p4)), .val (.int (v0_50 p0 p1 p2 p3 p4)), .val (.int (v0_60 p0 p1 p2 p3 p4)), .val (.ref b0_64), .val (.ref b0_70), .val (.int (v0_11 p0 p1 p2 p3 p4)), .val (.int (1 : Int32)), .val (.int (1 : Int32)), .unset, .unset, .unset, .unset, .unset, .unset, .unset, .unset, .unset, .unset, .unset, .unset, .unset, .unset]
def la0_33 (p0 : Int32) (p1 : Int32) (p2 : Int32) (p3 : Int32) (p4 : Int32) (b0_64 : Addr) (b0_70 : Addr) : Array Slot := #[.val (.int p0), .val (.int p1), .val (.int p2), .val (.int p3), .val (.int p4), .val (.int (1 : Int32)), .val (.int (v0_11 p0 p1 p2 p3 p4)), .val (.int (v0_21 p0 p1 p2 p3 p4)), .val (.int (v0_32 p0 p1 p2 p3 p4)), .val (.int (v0_41 p0 p1 p2 p3 p4)), .val (.int (v0_50 p0 p1 p2 p3 p4)), .val (.int (v0_60 p0 p1 p2 p3 p4)), .val (.ref b0_64), .val (.ref b0_70), .val (.int (v0_11 p0 p1 p2 p3 p4)), .val (.int (1 : Int32)), .val (.int (1 : Int32)), .val (.int (v0_41 p0 p1 p2 p3 p4)), .unset, .unset, .unset, .unset, .unset, .unset, .unset, .unset, .unset, .unset, .unset, .unset, .unset]
def la0_34 (p0 : Int32) (p1 : Int32) (p2 : Int32) (p3 : Int32) (p4 : Int32) (b0_64 : Addr) (b0_70 : Addr) : Array Slot := #[.val (.int p0), .val (.int p1), .val (.int p2), .val (.int p3), .val (.int p4), .val (.int (1 : Int32)), .val (.int (v0_11 p0 p1 p2 p3 p4)), .val (.int (v0_21 p0 p1 p2 p3 p4)), .val (.int (v0_32 p0 p1 p2 p3 p4)), .val (.int (v0_41 p0 p1 p2 p3 p4)), .val (.int (v0_50 p0 p1 p2 p3 p4)), .val (.int (v0_60 p0 p1 p2 p3 p4)), .val (.ref b0_64), .val (.ref b0_70), .val (.int (v0_11 p0 p1 p2 p3 p4)), .val (.int (1 : Int32)), .val (.int (1 : Int32)), .val (.int (v0_41 p0 p1 p2 p3 p4)), .val (.int (0 : Int32)), .unset, .unset, .unset, .unset, .unset, .unset, .unset, .unset, .unset, .unset, .unset, .unset]
def la0_35 (p0 : Int32) (p1 : Int32) (p2 : Int32) (p3 : Int32) (p4 : Int32) (b0_64 : Addr) (b0_70 : Addr) : Array Slot := #[.val (.int p0), .val (.int p1), .val (.int p2), .val (.int p3), .val (.int p4), .val (.int (1 : Int32)), .val (.int (v0_11 p0 p1 p2 p3 p4)), .val (.int (v0_21 p0 p1 p2 p3 p4)), .val (.int (v0_32 p0 p1 p2 p3 p4)), .val (.int (v0_41 p0 p1 p2 p3 p4)), .val (.int (v0_50 p0 p1 p2 p3 p4)), .val (.int (v0_60 p0 p1 p2 p3 p4)), .val (.ref b0_64), .val (.ref b0_70), .val (.int (v0_11 p0 p1 p2 p3 p4)), .val (.int (1 : Int32)), .val (.int (1 : Int32)), .val (.int (v0_41 p0 p1 p2 p3 p4)), .val (.int (0 : Int32)), .val (.int (0 : Int32)), .unset, .unset, .unset, .unset, .unset, .unset, .unset, .unset, .unset, .unset, .unset]
def la0_36 (p0 : Int32) (p1 : Int32) (p2 : Int32) (p3 : Int32) (p4 : Int32) (b0_64 : Addr) (b0_70 : Addr) : Array Slot := #[.val (.int p0), .val (.int p1), .val (.int p2), .val (.int p3), .val (.int p4), .val (.int (1 : Int32)), .val (.int (v0_11 p0 p1 p2 p3 p4)), .val (.int (v0_21 p0 p1 p2 p3 p4)), .val (.int (v0_32 p0 p1 p2 p3 p4)), .val (.int (v0_41 p0 p1 p2 p3 p4)), .val (.int (v0_50 p0 p1 p2 p3 p4)), .val (.int (v0_60 p0 p1 p2 p3 p4)), .val (.ref b0_64), .val (.ref b0_70), .val (.int (v0_11 p0 p1 p2 p3 p4)), .val (.int (1 : Int32)), .val (.int (1 : Int32)), .val (.int (v0_41 p0 p1 p2 p3 p4)), .val (.int (0 : Int32)), .val (.int (0 : Int32)), .val (.int (v0_217 p0 p1 p2 p3 p4)), .unset, .unset, .unset, .unset, .unset, .unset, .unset, .unset, .unset, .unset]
def la0_37 (p0 : Int32) (p1 : Int32) (p2 : Int32) (p3 : Int32) (p4 : Int32) (b0_64 : Addr) (b0_70 : Addr) : Array Slot := #[.val (.int p0), .val (.int p1), .val (.int p2), .val (.int p3), .val (.int p4), .val (.int (1 : Int32)), .val (.int (v0_11 p0 p1 p2 p3 p4)), .val (.int (v0_21 p0 p1 p2 p3 p4)), .val (.int (v0_32 p0 p1 p2 p3 p4)), .val (.int (v0_41 p0 p1 p2 p3 p4)), .val (.int (v0_50 p0 p1 p2 p3 p4)), .val (.int (v0_60 p0 p1 p2 p3 p4)), .val (.ref b0_64), .val (.ref b0_70), .val (.int (v0_11 p0 p1 p2 p3 p4)), .val (.int (1 : Int32)), .val (.int (1 : Int32)), .val (.int (v0_41 p0 p1 p2 p3 p4)), .val (.int (0 : Int32)), .val (.int (0 : Int32)), .val (.int (v0_217 p0 p1 p2 p3 p4)), .val (.int (v0_233 p0 p1 p2 p3 p4)), .unset, .unset, .unset, .unset, .unset, .unset, .unset, .unset, .unset]
def la0_38 (p0 : Int32) (p1 : Int32) (p2 : Int32) (p3 : Int32) (p4 : Int32) (b0_64 : Addr) (b0_70 : Addr) : Array Slot := #[.val (.int p0), .val (.int p1), .val (.int p2), .val (.int p3), .val (.int p4), .val (.int (1 : Int32)), .val (.int (v0_11 p0 p1 p2 p3 p4)), .val (.int (v0_21 p0 p1 p2 p3 p4)), .val (.int (v0_32 p0 p1 p2 p3 p4)), .val (.int (v0_41 p0 p1 p2 p3 p4)), .val (.int (v0_50 p0 p1 p2 p3 p4)), .val (.int (v0_60 p0 p1 p2 p3 p4)), .val (.ref b0_64), .val (.ref b0_70), .val (.int (v0_11 p0 p1 p2 p3 p4)), .val (.int (1 : Int32)), .val (.int (1 : Int32)), .val (.int (v0_41 p0 p1 p2 p3 p4)), .val (.int (0 : Int32)), .val (.int (0 : Int32)), .val (.int (v0_217 p0 p1 p2 p3 p4)), .val (.int (v0_233 p0 p1 p2 p3 p4)), .val (.int (v0_242 p0 p1 p2 p3 p4)), .unset, .unset, .unset, .unset, .unset, .unset, .unset, .unset]
def la0_39 (p0 : Int32) (p1 : Int32) (p2 : Int32) (p3 : Int32) (p4 : Int32) (b0_64 : Addr) (b0_70 : Addr) : Array Slot := #[.val (.int p0), .val (.int p1), .val (.int p2), .val (.int p3), .val (.int p4), .val (.int (1 : Int32)), .val (.int (v0_11 p0 p1 p2 p3 p4)), .val (.int (v0_21 p0 p1 p2 p3 p4)), .val (.int (v0_32 p0 p1 p2 p3 p4)), .val (.int (v0_41 p0 p1 p2 p3 p4)), .val (.int (v0_50 p0 p1 p2 p3 p4)), .val (.int (v0_60 p0 p1 p2 p3 p4)), .val (.ref b0_64), .val (.ref b0_70), .val (.int (v0_11 p0 p1 p2 p3 p4)), .val (.int (1 : Int32)), .val (.int (1 : Int32)), .val (.int (v0_41 p0 p1 p2 p3 p4)), .val (.int (0 : Int32)), .val (.int (0 : Int32)), .val (.int (v0_217 p0 p1 p2 p3 p4)), .val (.int (v0_233 p0 p1 p2 p3 p4)), .val (.int (v0_242 p0 p1 p2 p3 p4)), .val (.int (v0_257 p0 p1 p2 p3 p4)), .unset, .unset, .unset, .unset, .unset, .unset, .unset]
def la0_40 (p0 : Int32) (p1 : Int32) (p2 : Int32) (p3 : Int32) (p4 : Int32) (b0_64 : Addr) (b0_70 : Addr) : Array Slot := #[.val (.int p0), .val (.int p1), .val (.int p2), .val (.int p3), .val (.int p4), .val (.int (1 : Int32)), .val (.int (v0_11 p0 p1 p2 p3 p4)), .val (.int (v0_21 p0 p1 p2 p3 p4)), .val (.int (v0_32 p0 p1 p2 p3 p4)), .val (.int (v0_41 p0 p1 p2 p3 p4)), .val (.int (v0_50 p0 p1 p2 p3 p4)), .val (.int (v0_60 p0 p1 p2 p3 p4)), .val (.ref b0_64), .val (.ref b0_70), .val (.int (v0_11 p0 p1 p2 p3 p4)), .val (.int (1 : Int32)), .val (.int (1 : Int32)), .val (.int (v0_41 p0 p1 p2 p3 p4)), .val (.int (0 : Int32)), .val (.int (0 : Int32)), .val (.int (v0_217 p0 p1 p2 p3 p4)), .val (.int (v0_233 p0 p1 p2 p3 p4)), .val (.int (v0_242 p0 p1 p2 p3 p4)), .val (.int (v0_257 p0 p1 p2 p3 p4)), .val (.int (0 : Int32)), .unset, .unset, .unset, .unset, .unset, .unset]
def la0_41 (p0 : Int32) (p1 : Int32) (p2 : Int32) (p3 : Int32) (p4 : Int32) (b0_64 : Addr) (b0_70 : Addr) : Array Slot := #[.val (.int p0), .val (.int p1), .val (.int p2), .val (.int p3), .val (.int p4), .val (.int (1 : Int32)), .val (.int (v0_11 p0 p1 p2 p3 p4)), .val (.int (v0_21 p0 p1 p2 p3 p4)), .val (.int (v0_32 p0 p1 p2 p3 p4)), .val (.int (v0_41 p0 p1 p2 p3 p4)), .val (.int (v0_50 p0 p1 p2 p3 p4)), .val (.int (v0_60 p0 p1 p2 p3 p4)), .val (.ref b0_64), .val (.ref b0_70), .val (.int (v0_11 p0 p1 p2 p3 p4)), .val (.int (1 : Int32)), .val (.int (1 : Int32)), .val (.int (v0_41 p0 p1 p2 p3 p4)), .val (.int (0 : Int32)), .val (.int (0 : Int32)), .val (.int (v0_217 p0 p1 p2 p3 p4)), .val (.int (v0_233 p0 p1 p2 p3 p4)), .val (.int (v0_242 p0 p1 p2 p3 p4)), .val (.int (v0_257 p0 p1 p2 p3 p4)), .val (.int (0 : Int32)), .val (.int (0 : Int32)), .unset, .unset, .unset, .unset, .unset]
def la0_42 (p0 : Int32) (p1 : Int32) (p2 : Int32) (p3 : Int32) (p4 : Int32) (b0_64 : Addr) (b0_70 : Addr) : Array Slot := #[.val (.int p0), .val (.int p1), .val (.int p2), .val (.int p3), .val (.int p4), .val (.int (1 : Int32)), .val (.int (v0_11 p0 p1 p2 p3 p4)), .val (.int (v0_21 p0 p1 p2 p3 p4)), .val (.int (v0_32 p0 p1 p2 p3 p4)), .val (.int (v0_41 p0 p1 p2 p3 p4)), .val (.int (v0_50 p0 p1 p2 p3 p4)), .val (.int (v0_60 p0 p1 p2 p3 p4)), .val (.ref b0_64), .val (.ref b0_70), .val (.int (v0_11 p0 p1 p2 p3 p4)), .val (.int (1 : Int32)), .val (.int (1 : Int32)), .val (.int (v0_41 p0 p1 p2 p3 p4)), .val (.int (0 : Int32)), .val (.int (0 : Int32)), .val (.int (v0_217 p0 p1 p2 p3 p4)), .val (.int (v0_233 p0 p1 p2 p3 p4)), .val (.int (v0_242 p0 p1 p2 p3 p4)), .val (.int (v0_257 p0 p1 p2 p3 p4)), .val (.int (0 : Int32)), .val (.int (0 : Int32)), .val (.int (v0_326x p0 p1 p2 p3 p4)), .unset, .unset, .unset, .unset]
def la0_43 (p0 : Int32) (p1 : Int32) (p2 : Int32) (p3 : Int32) (p4 : Int32) (b0_64 : Addr) (b0_70 : Addr) : Array Slot := #[.val (.int p0), .val (.int p1), .val (.int p2), .val (.int p3), .val (.int p4), .val (.int (1 : Int32)), .val (.int (v0_11 p0 p1 p2 p3 p4)), .val (.int (v0_21 p0 p1 p2 p3 p4)), .val (.int (v0_32 p0 p1 p2 p3 p4)), .val (.int (v0_41 p0 p1 p2 p3 p4)), .val (.int (v0_50 p0 p1 p2 p3 p4)), .val (.int (v0_60 p0 p1 p2 p3 p4)), .val (.ref b0_64), .val (.ref b0_70), .val (.int (v0_11 p0 p1 p2 p3 p4)), .val (.int (1 : Int32)), .val (.int (1 : Int32)), .val (.int (v0_41 p0 p1 p2 p3 p4)), .val (.int (0 : Int32)), .val (.int (0 : Int32)), .val (.int (v0_217 p0 p1 p2 p3 p4)), .val (.int (v0_233 p0 p1 p2 p3 p4)), .val (.int (v0_242 p0 p1 p2 p3 p4)), .val (.int (v0_257 p0 p1 p2 p3 p4)), .val (.int (0 : Int32)), .val (.int (0 : Int32)), .val (.int (v0_326x p0 p1 p2 p3 p4)), .val (.int (v0_377 p0 p1 p2 p3 p4)), .unset, .unset, .unset]
def la0_44 (p0 : Int32) (p1 : Int32) (p2 : Int32) (p3 : Int32) (p4 : Int32) (b0_64 : Addr) (b0_70 : Addr) : Array Slot := #[.val (.int p0), .val (.int p1), .val (.int p2), .val (.int p3), .val (.int p4), .val (.int (1 : Int32)), .val (.int (v0_11 p0 p1 p2 p3 p4)), .val (.int (v0_21 p0 p1 p2 p3 p4)), .val (.int (v0_32 p0 p1 p2 p3 p4)), .val (.int (v0_41 p0 p1 p2 p3 p4)), .val (.int (v0_50 p0 p1 p2 p3 p4)), .val (.int (v0_60 p0 p1 p2 p3 p4)), .val (.ref b0_64), .val (.ref b0_70), .val (.int (v0_11 p0 p1 p2 p3 p4)), .val (.int (1 : Int32)), .val (.int (1 : Int32)), .val (.int (v0_41 p0 p1 p2 p3 p4)), .val (.int (0 : Int32)), .val (.int (0 : Int32)), .val (.int (v0_217 p0 p1 p2 p3 p4)), .val (.int (v0_233 p0 p1 p2 p3 p4)), .val (.int (v0_242 p0 p1 p2 p3 p4)), .val (.int (v0_257 p0 p1 p2 p3 p4)), .val (.int (0 : Int32)), .val (.int (0 : Int32)), .val (.int (v0_326x p0 p1 p2 p3 p4)), .val (.int (v0_377 p0 p1 p2 p3 p4)), .val (.int (v0_393 p0 p1 p2 p3 p4)), .unset, .unset]
def la0_45 (p0 : Int32) (p1 : Int32) (p2 : Int32) (p3 : Int32) (p4 : Int32) (b0_64 : Addr) (b0_70 : Addr) : Array Slot := #[.val (.int p0), .val (.int p1), .val (.int p2), .val (.int p3), .val (.int p4), .val (.int (1 : Int32)), .val (.int (v0_11 p0 p1 p2 p3 p4)), .val (.int (v0_21 p0 p1 p2 p3 p4)), .val (.int (v0_32 p0 p1 p2 p3 p4)), .val (.int (v0_41 p0 p1 p2 p3 p4)), .val (.int (v0_50 p0 p1 p2 p3 p4)), .val (.int (v0_60 p0 p1 p2 p3 p4)), .val (.ref b0_64), .val (.ref b0_70), .val (.int (v0_11 p0 p1 p2 p3 p4)), .val (.int (1 : Int32)), .val (.int (1 : Int32)), .val (.int (v0_41 p0 p1 p2 p3 p4)), .val (.int (0 : Int32)), .val (.int (0 : Int32)), .val (.int (v0_217 p0 p1 p2 p3 p4)), .val (.int (v0_233 p0 p1 p2 p3 p4)), .val (.int (v0_242 p0 p1 p2 p3 p4)), .val (.int (v0_257 p0 p1 p2 p3 p4)), .val (.int (0 : Int32)), .val (.int (0 : Int32)), .val (.int (v0_326x p0 p1 p2 p3 p4)), .val (.int (v0_377 p0 p1 p2 p3 p4)), .val (.int (v0_393 p0 p1 p2 p3 p4)), .val (.int (v0_409 p0 p1 p2 p3 p4)), .unset]
def la0_46 (p0 : Int32) (p1 : Int32) (p2 : Int32) (p3 : Int32) (p4 : Int32) (b0_64 : Addr) (b0_70 : Addr) : Array Slot := #[.val (.int p0), .val (.int p1), .val (.int p2), .val (.int p3), .val (.int p4), .val (.int (1 : Int32)), .val (.int (v0_11 p0 p1 p2 p3 p4)), .val (.int (v0_21 p0 p1 p2 p3 p4)), .val (.int (v0_32 p0 p1 p2 p3 p4)), .val (.int (v0_41 p0 p1 p2 p3 p4)), .val (.int (v0_50 p0 p1 p2 p3 p4)), .val (.int (v0_60 p0 p1 p2 p3 p4)), .val (.ref b0_64), .val (.ref b0_70), .val (.int (v0_11 p0 p1 p2 p3 p4)), .val (.int (1 : Int32)), .val (.int (1 : Int32)), .val (.int (v0_41 p0 p1 p2 p3 p4)), .val (.int (0 : Int32)), .val (.int (0 : Int32)), .val (.int (v0_217 p0 p1 p2 p3 p4)), .val (.int (v0_233 p0 p1 p2 p3 p4)), .val (.int (v0_242 p0 p1 p2 p3 p4)), .val (.int (v0_257 p0 p1 p2 p3 p4)), .val (.int (0 : Int32)), .val (.int (0 : Int32)), .val (.int (v0_326x p0 p1 p2 p3 p4)), .val (.int (v0_377 p0 p1 p2 p3 p4)), .val (.int (v0_393 p0 p1 p2 p3 p4)), .val (.int (v0_409 p0 p1 p2 p3 p4)), .val (.int (v0_424 p0 p1 p2 p3 p4))]
def la0_47 (p0 : Int32) (p1 : Int32) (p2 : Int32) (p3 : Int32) (p4 : Int32) : Array Slot := #[.val (.int p0), .val (.int p1), .val (.int p2), .val (.int p3), .val (.int p4), .val (.int (2 : Int32)), .val (.int (v0_11 p0 p1 p2 p3 p4)), .val (.int (v0_21 p0 p1 p2 p3 p4)), .val (.int (v0_32 p0 p1 p2 p3 p4)), .val (.int (v0_41 p0 p1 p2 p3 p4)), .val (.int (v0_50 p0 p1 p2 p3 p4)), .val (.int (v0_60 p0 p1 p2 p3 p4)), .unset, .unset, .unset, .unset, .unset, .unset, .unset, .unset, .unset, .unset, .unset, .unset, .unset, .unset, .unset, .unset, .unset, .unset, .unset]
def la0_48 (p0 : Int32) (p1 : Int32) (p2 : Int32) (p3 : Int32) (p4 : Int32) (b0_64 : Addr) : Array Slot := #[.val (.int p0), .val (.int p1), .val (.int p2), .val (.int p3), .val (.int p4), .val (.int (2 : Int32)), .val (.int (v0_11 p0 p1 p2 p3 p4)), .val (.int (v0_21 p0 p1 p2 p3 p4)), .val (.int (v0_32 p0 p1 p2 p3 p4)), .val (.int (v0_41 p0 p1 p2 p3 p4)), .val (.int (v0_50 p0 p1 p2 p3 p4)), .val (.int (v0_60 p0 p1 p2 p3 p4)), .val (.ref b0_64), .unset, .unset, .unset, .unset, .unset, .unset, .unset, .unset, .unset, .unset, .unset, .unset, .unset, .unset, .unset, .unset, .unset, .unset]
def la0_49 (p0 : Int32) (p1 : Int32) (p2 : Int32) (p3 : Int32) (p4 : Int32) (b0_64 : Addr) (b0_70 : Addr) : Array Slot := #[.val (.int p0), .val (.int p1), .val (.int p2), .val (.int p3), .val (.int p4), .val (.int (2 : Int32)), .val (.int (v0_11 p0 p1 p2 p3 p4)), .val (.int (v0_21 p0 p1 p2 p3 p4)), .val (.int (v0_32 p0 p1 p2 p3 p4)), .val (.int (v0_41 p0 p1 p2 p3 p4)), .val (.int (v0_50 p0 p1 p2 p3 p4)), .val (.int (v0_60 p0 p1 p2 p3 p4)), .val (.ref b0_64), .val (.ref b0_70), .unset, .unset, .unset, .unset, .unset, .unset, .unset, .unset, .unset, .unset, .unset, .unset, .unset, .unset, .unset, .unset, .unset]
def la0_50 (p0 : Int32) (p1 : Int32) (p2 : Int32) (p3 : Int32) (p4 : Int32) (b0_64 : Addr) (b0_70 : Addr) : Array Slot := #[.val (.int p0), .val (.int p1), .val (.int p2), .val (.int p3), .val (.int p4), .val (.int (2 : Int32)), .val (.int (v0_11 p0 p1 p2 p3 p4)), .val (.int (v0_21 p0 p1 p2 p3 p4)), .val (.int (v0_32 p0 p1 p2 p3 p4)), .val (.int (v0_41 p0 p1 p2 p3 p4)), .val (.int (v0_50 p0 p1 p2 p3 p4)), .val (.int (v0_60 p0 p1 p2 p3 p4)), .val (.ref b0_64), .val (.ref b0_70), .val (.int (v0_11 p0 p1 p2 p3 p4)), .unset, .unset, .unset, .unset, .unset, .unset, .unset, .unset, .unset, .unset, .unset, .unset, .unset, .unset, .unset, .unset]
def la0_51 (p0 : Int32) (p1 : Int32) (p2 : Int32) (p3 : Int32) (p4 : Int32) (b0_64 : Addr) (b0_70 : Addr) : Array Slot := #[.val (.int p0), .val (.int p1), .val (.int p2), .val (.int p3), .val (.int p4), .val (.int (2 : Int32)), .val (.int (v0_11 p0 p1 p2 p3 p4)), .val (.int (v0_21 p0 p1 p2 p3 p4)), .val (.int (v0_32 p0 p1 p2 p3 p4)), .val (.int (v0_41 p0 p1 p2 p3 p4)), .val (.int (v0_50 p0 p1 p2 p3 p4)), .val (.int (v0_60 p0 p1 p2 p3 p4)), .val (.ref b0_64), .val (.ref b0_70), .val (.int (v0_11 p0 p1 p2 p3 p4)), .val (.int (v0_21 p0 p1 p2 p3 p4)), .unset, .unset, .unset, .unset, .unset, .unset, .unset, .unset, .unset, .unset, .unset, .unset, .unset, .unset, .unset]
def la0_52 (p0 : Int32) (p1 : Int32) (p2 : Int32) (p3 : Int32) (p4 : Int32) (b0_64 : Addr) (b0_70 : Addr) : Array Slot := #[.val (.int p0), .val (.int p1), .val (.int p2), .val (.int p3), .val (.int p4), .val (.int (2 : Int32)), .val (.int (v0_11 p0 p1 p2 p3 p4)), .val (.int (v0_21 p0 p1 p2 p3 p4)), .val (.int (v0_32 p0 p1 p2 p3 p4)), .val (.int (v0_41 p0 p1 p2 p3 p4)), .val (.int (v0_50 p0 p1 p2 p3 p4)), .val (.int (v0_60 p0 p1 p2 p3 p4)), .val (.ref b0_64), .val (.ref b0_70), .val (.int (v0_11 p0 p1 p2 p3 p4)), .val (.int (v0_21 p0 p1 p2 p3 p4)), .val (.int (1 : Int32)), .unset, .unset, .unset, .unset, .unset, .unset, .unset, .unset, .unset, .unset, .unset, .unset, .unset, .unset]
def la0_53 (p0 : Int32) (p1 : Int32) (p2 : Int32) (p3 : Int32) (p4 : Int32) (b0_64 : Addr) (b0_70 : Addr) : Array Slot := #[.val (.int p0), .val (.int p1), .val (.int p2), .val (.int p3), .val (.int p4), .val (.int (2 : Int32)), .val (.int (v0_11 p0 p1 p2 p3 p4)), .val (.int (v0_21 p0 p1 p2 p3 p4)), .val (.int (v0_32 p0 p1 p2 p3 p4)), .val (.int (v0_41 p0 p1 p2 p3 p4)), .val (.int (v0_50 p0 p1 p2 p3 p4)), .val (.int (v0_60 p0 p1 p2 p3 p4)), .val (.ref b0_64), .val (.ref b0_70), .val (.int (v0_11 p0 p1 p2 p3 p4)), .val (.int (v0_21 p0 p1 p2 p3 p4)), .val (.int (1 : Int32)), .val (.int (v0_41 p0 p1 p2 p3 p4)), .unset, .unset, .unset, .unset, .unset, .unset, .unset, .unset, .unset, .unset, .unset, .unset, .unset]
def la0_54 (p0 : Int32) (p1 : Int32) (p2 : Int32) (p3 : Int32) (p4 : Int32) (b0_64 : Addr) (b0_70 : Addr) : Array Slot := #[.val (.int p0), .val (.int p1), .val (.int p2), .val (.int p3), .val (.int p4), .val (.int (2 : Int32)), .val (.int (v0_11 p0 p1 p2 p3 p4)), .val (.int (v0_21 p0 p1 p2 p3 p4)), .val (.int (v0_32 p0 p1 p2 p3 p4)), .val (.int (v0_41 p0 p1 p2 p3 p4)), .val (.int (v0_50 p0 p1 p2 p3 p4)), .val (.int (v0_60 p0 p1 p2 p3 p4)), .val (.ref b0_64), .val (.ref b0_70), .val (.int (v0_11 p0 p1 p2 p3 p4)), .val (.int (v0_21 p0 p1 p2 p3 p4)), .val (.int (1 : Int32)), .val (.int (v0_41 p0 p1 p2 p3 p4)), .val (.int (v0_50 p0 p1 p2 p3 p4)), .unset, .unset, .unset, .unset, .unset, .unset, .unset, .unset, .unset, .unset, .unset, .unset]
def la0_55 (p0 : Int32) (p1 : Int32) (p2 : Int32) (p3 : Int32) (p4 : Int32) (b0_64 : Addr) (b0_70 : Addr) : Array Slot := #[.val (.int p0), .val (.int p1), .val (.int p2), .val (.int p3), .val (.int p4), .val (.int (2 : Int32)), .val (.int (v0_11 p0 p1 p2 p3 p4)), .val (.int (v0_21 p0 p1 p2 p3 p4)), .val (.int (v0_32 p0 p1 p2 p3 p4)), .val (.int (v0_41 p0 p1 p2 p3 p4)), .val (.int (v0_50 p0 p1 p2 p3 p4)), .val (.int (v0_60 p0 p1 p2 p3 p4)), .val (.ref b0_64), .val (.ref b0_70), .val (.int (v0_11 p0 p1 p2 p3 p4)), .val (.int (v0_21 p0 p1 p2 p3 p4)), .val (.int (1 : Int32)), .val (.int (v0_41 p0 p1 p2 p3 p4)), .val (.int (v0_50 p0 p1 p2 p3 p4)), .val (.int (0 : Int32)), .unset, .unset, .unset, .unset, .unset, .unset, .unset, .unset, .unset, .unset, .unset]
def la0_56 (p0 : Int32) (p1 : Int32) (p2 : Int32) (p3 : Int32) (p4 : Int32) (b0_64 : Addr) (b0_70 : Addr) : Array Slot := #[.val (.int p0), .val (.int p1), .val (.int p2), .val (.int p3), .val (.int p4), .val (.int (2 : Int32)), .val (.int (v0_11 p0 p1 p2 p3 p4)), .val (.int (v0_21 p0 p1 p2 p3 p4)), .val (.int (v0_32 p0 p1 p2 p3 p4)), .val (.int (v0_41 p0 p1 p2 p3 p4)), .val (.int (v0_50 p0 p1 p2 p3 p4)), .val (.int (v0_60 p0 p1 p2 p3 p4)), .val (.ref b0_64), .val (.ref b0_70), .val (.int (v0_11 p0 p1 p2 p3 p4)), .val (.int (v0_21 p0 p1 p2 p3 p4)), .val (.int (1 : Int32)), .val (.int (v0_41 p0 p1 p2 p3 p4)), .val (.int (v0_50 p0 p1 p2 p3 p4)), .val (.int (0 : Int32)), .val (.int (v0_217x p0 p1 p2 p3 p4)), .unset, .unset, .unset, .unset, .unset, .unset, .unset, .unset, .unset, .unset]
def la0_57 (p0 : Int32) (p1 : Int32) (p2 : Int32) (p3 : Int32) (p4 : Int32) (b0_64 : Addr) (b0_70 : Addr) : Array Slot := #[.val (.int p0), .val (.int p1), .val (.int p2), .val (.int p3), .val (.int p4), .val (.int (2 : Int32)), .val (.int (v0_11 p0 p1 p2 p3 p4)), .val (.int (v0_21 p0 p1 p2 p3 p4)), .val (.int (v0_32 p0 p1 p2 p3 p4)), .val (.int (v0_41 p0 p1 p2 p3 p4)), .val (.int (v0_50 p0 p1 p2 p3 p4)), .val (.int (v0_60 p0 p1 p2 p3 p4)), .val (.ref b0_64), .val (.ref b0_70), .val (.int (v0_11 p0 p1 p2 p3 p4)), .val (.int (v0_21 p0 p1 p2 p3 p4)), .val (.int (1 : Int32)), .val (.int (v0_41 p0 p1 p2 p3 p4)), .val (.int (v0_50 p0 p1 p2 p3 p4)), .val (.int (0 : Int32)), .val (.int (v0_217x p0 p1 p2 p3 p4)), .val (.int (v0_233x p0 p1 p2 p3 p4)), .unset, .unset, .unset, .unset, .unset, .unset, .unset, .unset, .unset]
def la0_58 (p0 : Int32) (p1 : Int32) (p2 : Int32) (p3 : Int32) (p4 : Int32) (b0_64 : Addr) (b0_70 : Addr) : Array Slot := #[.val (.int p0), .val (.int p1), .val (.int p2), .val (.int p3), .val (.int p4), .val (.int (2 : Int32)), .val (.int (v0_11 p0 p1 p2 p3 p4)), .val (.int (v0_21 p0 p1 p2 p3 p4)), .val (.int (v0_32 p0 p1 p2 p3 p4)), .val (.int (v0_41 p0 p1 p2 p3 p4)), .val (.int (v0_50 p0 p1 p2 p3 p4)), .val (.int (v0_60 p0 p1 p2 p3 p4)), .val (.ref b0_64), .val (.ref b0_70), .val (.int (v0_11 p0 p1 p2 p3 p4)), .val (.int (v0_21 p0 p1 p2 p3 p4)), .val (.int (1 : Int32)), .val (.int (v0_41 p0 p1 p2 p3 p4)), .val (.int (v0_50 p0 p1 p2 p3 p4)), .val (.int (0 : Int32)), .val (.int (v0_217x p0 p1 p2 p3 p4)), .val (.int (v0_233x p0 p1 p2 p3 p4)), .val (.int (v0_242x p0 p1 p2 p3 p4)), .unset, .unset, .unset, .unset, .unset, .unset, .unset, .unset]
def la0_59 (p0 : Int32) (p1 : Int32) (p2 : Int32) (p3 : Int32) (p4 : Int32) (b0_64 : Addr) (b0_70 : Addr) : Array Slot := #[.val (.int p0), .val (.int p1), .val (.int p2), .val (.int p3), .val (.int p4), .val (.int (2 : Int32)), .val (.int (v0_11 p0 p1 p2 p3 p4)), .val (.int (v0_21 p0 p1 p2 p3 p4)), .val (.int (v0_32 p0 p1 p2 p3 p4)), .val (.int (v0_41 p0 p1 p2 p3 p4)), .val (.int (v0_50 p0 p1 p2 p3 p4)), .val (.int (v0_60 p0 p1 p2 p3 p4)), .val (.ref b0_64), .val (.ref b0_70), .val (.int (v0_11 p0 p1 p2 p3 p4)), .val (.int (v0_21 p0 p1 p2 p3 p4)), .val (.int (1 : Int32)), .val (.int (v0_41 p0 p1 p2 p3 p4)), .val (.int (v0_50 p0 p1 p2 p3 p4)), .val (.int (0 : Int32)), .val (.int (v0_217x p0 p1 p2 p3 p4)), .val (.int (v0_233x p0 p1 p2 p3 p4)), .val (.int (v0_242x p0 p1 p2 p3 p4)), .val (.int (v0_257 p0 p1 p2 p3 p4)), .unset, .unset, .unset, .unset, .unset, .unset, .unset]
def la0_60 (p0 : Int32) (p1 : Int32) (p2 : Int32) (p3 : Int32) (p4 : Int32) (b0_64 : Addr) (b0_70 : Addr) : Array Slot := #[.val (.int p0), .val (.int p1), .val (.int p2), .val (.int p3), .val (.int p4), .val (.int (2 : Int32)), .val (.int (v0_11 p0 p1 p2 p3 p4)), .val (.int (v0_21 p0 p1 p2 p3 p4)), .val (.int (v0_32 p0 p1 p2 p3 p4)), .val (.int (v0_41 p0 p1 p2 p3 p4)), .val (.int (v0_50 p0 p1 p2 p3 p4)), .val (.int (v0_60 p0 p1 p2 p3 p4)), .val (.ref b0_64), .val (.ref b0_70), .val (.int (v0_11 p0 p1 p2 p3 p4)), .val (.int (v0_21 p0 p1 p2 p3 p4)), .val (.int (1 : Int32)), .val (.int (v0_41 p0 p1 p2 p3 p4)), .val (.int (v0_50 p0 p1 p2 p3 p4)), .val (.int (0 : Int32)), .val (.int (v0_217x p0 p1 p2 p3 p4)), .val (.int (v0_233x p0 p1 p2 p3 p4)), .val (.int (v0_242x p0 p1 p2 p3 p4)), .val (.int (v0_257 p0 p1 p2 p3 p4)), .val (.int (v0_273 p0 p1 p2 p3 p4)), .unset, .unset, .unset, .unset, .unset, .unset]
def la0_61 (p0 : Int32) (p1 : Int32) (p2 : Int32) (p3 : Int32) (p4 : Int32) (b0_64 : Addr) (b0_70 : Addr) : Array Slot := #[.val (.int p0), .val (.int p1), .val (.int p2), .val (.int p3), .val (.int p4), .val (.int (2 : Int32)), .val (.int (v0_11 p0 p1 p2 p3 p4)), .val (.int (v0_21 p0 p1 p2 p3 p4)), .val (.int (v0_32 p0 p1 p2 p3 p4)), .val (.int (v0_41 p0 p1 p2 p3 p4)), .val (.int (v0_50 p0 p1 p2 p3 p4)), .val (.int (v0_60 p0 p1 p2 p3 p4)), .val (.ref b0_64), .val (.ref b0_70), .val (.int (v0_11 p0 p1 p2 p3 p4)), .val (.int (v0_21 p0 p1 p2 p3 p4)), .val (.int (1 : Int32)), .val (.int (v0_41 p0 p1 p2 p3 p4)), .val (.int (v0_50 p0 p1 p2 p3 p4)), .val (.int (0 : Int32)), .val (.int (v0_217x p0 p1 p2 p3 p4)), .val (.int (v0_233x p0 p1 p2 p3 p4)), .val (.int (v0_242x p0 p1 p2 p3 p4)), .val (.int (v0_257 p0 p1 p2 p3 p4)), .val (.int (v0_273 p0 p1 p2 p3 p4)), .val (.int (0 : Int32)), .unset, .unset, .unset, .unset, .unset]
def la0_62 (p0 : Int32) (p1 : Int32) (p2 : Int32) (p3 : Int32) (p4 : Int32) (b0_64 : Addr) (b0_70 : Addr) : Array Slot := #[.val (.int p0), .val (.int p1), .val (.int p2), .val (.int p3), .val (.int p4), .val (.int (2 : Int32)), .val (.int (v0_11 p0 p1 p2 p3 p4)), .val (.int (v0_21 p0 p1 p2 p3 p4)), .val (.int (v0_32 p0 p1 p2 p3 p4)), .val (.int (v0_41 p0 p1 p2 p3 p4)), .val (.int (v0_50 p0 p1 p2 p3 p4)), .val (.int (v0_60 p0 p1 p2 p3 p4)), .val (.ref b0_64), .val (.ref b0_70), .val (.int (v0_11 p0 p1 p2 p3 p4)), .val (.int (v0_21 p0 p1 p2 p3 p4)), .val (.int (1 : Int32)), .val (.int (v0_41 p0 p1 p2 p3 p4)), .val (.int (v0_50 p0 p1 p2 p3 p4)), .val (.int (0 : Int32)), .val (.int (v0_217x p0 p1 p2 p3 p4)), .val (.int (v0_233x p0 p1 p2 p3 p4)), .val (.int (v0_242x p0 p1 p2 p3 p4)), .val (.int (v0_257 p0 p1 p2 p3 p4)), .val (.int (v0_273 p0 p1 p2 p3 p4)), .val (.int (0 : Int32)), .val (.int (v0_326xx p0 p1 p2 p3 p4)), .unset, .unset, .unset, .unset]
def la0_63 (p0 : Int32) (p1 : Int32) (p2 : Int32) (p3 : Int32) (p4 : Int32) (b0_64 : Addr) (b0_70 : Addr) : Array Slot := #[.val (.int p0), .val (.int p1), .val (.int p2), .val (.int p3), .val (.int p4), .val (.int (2 : Int32)), .val (.int (v0_11 p0 p1 p2 p3 p4)), .val (.int (v0_21 p0 p1 p2 p3 p4)), .val (.int (v0_32 p0 p1 p2 p3 p4)), .val (.int (v0_41 p0 p1 p2 p3 p4)), .val (.int (v0_50 p0 p1 p2 p3 p4)), .val (.int (v0_60 p0 p1 p2 p3 p4)), .val (.ref b0_64), .val (.ref b0_70), .val (.int (v0_11 p0 p1 p2 p3 p4)), .val (.int (v0_21 p0 p1 p2 p3 p4)), .val (.int (1 : Int32)), .val (.int (v0_41 p0 p1 p2 p3 p4)), .val (.int (v0_50 p0 p1 p2 p3 p4)), .val (.int (0 : Int32)), .val (.int (v0_217x p0 p1 p2 p3 p4)), .val (.int (v0_233x p0 p1 p2 p3 p4)), .val (.int (v0_242x p0 p1 p2 p3 p4)), .val (.int (v0_257 p0 p1 p2 p3 p4)), .val (.int (v0_273 p0 p1 p2 p3 p4)), .val (.int (0 : Int32)), .val (.int (v0_326xx p0 p1 p2 p3 p4)), .val (.int (v0_377x p0 p1 p2 p3 p4)), .unset, .unset, .unset]
def la0_64 (p0 : Int32) (p1 : Int32) (p2 : Int32) (p3 : Int32) (p4 : Int32) (b0_64 : Addr) (b0_70 : Addr) : Array Slot := #[.val (.int p0), .val (.int p1), .val (.int p2), .val (.int p3), .val (.int p4), .val (.int (2 : Int32)), .val (.int (v0_11 p0 p1 p2 p3 p4)), .val (.int (v0_21 p0 p1 p2 p3 p4)), .val (.int (v0_32 p0 p1 p2 p3 p4)), .val (.int (v0_41 p0 p1 p2 p3 p4)), .val (.int (v0_50 p0 p1 p2 p3 p4)), .val (.int (v0_60 p0 p1 p2 p3 p4)), .val (.ref b0_64), .val (.ref b0_70), .val (.int (v0_11 p0 p1 p2 p3 p4)), .val (.int (v0_21 p0 p1 p2 p3 p4)), .val (.int (1 : Int32)), .val (.int (v0_41 p0 p1 p2 p3 p4)), .val (.int (v0_50 p0 p1 p2 p3 p4)), .val (.int (0 : Int32)), .val (.int (v0_217x p0 p1 p2 p3 p4)), .val (.int (v0_233x p0 p1 p2 p3 p4)), .val (.int (v0_242x p0 p1 p2 p3 p4)), .val (.int (v0_257 p0 p1 p2 p3 p4)), .val (.int (v0_273 p0 p1 p2 p3 p4)), .val (.int (0 : Int32)), .val (.int (v0_326xx p0 p1 p2 p3 p4)), .val (.int (v0_377x p0 p1 p2 p3 p4)), .val (.int (v0_393x p0 p1 p2 p3 p4)), .unset, .unset]
def la0_65 (p0 : Int32) (p1 : Int32) (p2 : Int32) (p3 : Int32) (p4 : Int32) (b0_64 : Addr) (b0_70 : Addr) : Array Slot := #[.val (.int p0), .val (.int p1), .val (.int p2), .val (.int p3), .val (.int p4), .val (.int (2 : Int32)), .val (.int (v0_11 p0 p1 p2 p3 p4)), .val (.int (v0_21 p0 p1 p2 p3 p4)), .val (.int (v0_32 p0 p1 p2 p3 p4)), .val (.int (v0_41 p0 p1 p2 p3 p4)), .val (.int (v0_50 p0 p1 p2 p3 p4)), .val (.int (v0_60 p0 p1 p2 p3 p4)), .val (.ref b0_64), .val (.ref b0_70), .val (.int (v0_11 p0 p1 p2 p3 p4)), .val (.int (v0_21 p0 p1 p2 p3 p4)), .val (.int (1 : Int32)), .val (.int (v0_41 p0 p1 p2 p3 p4)), .val (.int (v0_50 p0 p1 p2 p3 p4)), .val (.int (0 : Int32)), .val (.int (v0_217x p0 p1 p2 p3 p4)), .val (.int (v0_233x p0 p1 p2 p3 p4)), .val (.int (v0_242x p0 p1 p2 p3 p4)), .val (.int (v0_257 p0 p1 p2 p3 p4)), .val (.int (v0_273 p0 p1 p2 p3 p4)), .val (.int (0 : Int32)), .val (.int (v0_326xx p0 p1 p2 p3 p4)), .val (.int (v0_377x p0 p1 p2 p3 p4)), .val (.int (v0_393x p0 p1 p2 p3 p4)), .val (.int (v0_409x p0 p1 p2 p3 p4)), .unset]
def la0_66 (p0 : Int32) (p1 : Int32) (p2 : Int32) (p3 : Int32) (p4 : Int32) (b0_64 : Addr) (b0_70 : Addr) : Array Slot := #[.val (.int p0), .val (.int p1), .val (.int p2), .val (.int p3), .val (.int p4), .val (.int (2 : Int32)), .val (.int (v0_11 p0 p1 p2 p3 p4)), .val (.int (v0_21 p0 p1 p2 p3 p4)), .val (.int (v0_32 p0 p1 p2 p3 p4)), .val (.int (v0_41 p0 p1 p2 p3 p4)), .val (.int (v0_50 p0 p1 p2 p3 p4)), .val (.int (v0_60 p0 p1 p2 p3 p4)), .val (.ref b0_64), .val (.ref b0_70), .val (.int (v0_11 p0 p1 p2 p3 p4)), .val (.int (v0_21 p0 p1 p2 p3 p4)), .val (.int (1 : Int32)), .val (.int (v0_41 p0 p1 p2 p3 p4)), .val (.int (v0_50 p0 p1 p2 p3 p4)), .val (.int (0 : Int32)), .val (.int (v0_217x p0 p1 p2 p3 p4)), .val (.int (v0_233x p0 p1 p2 p3 p4)), .val (.int (v0_242x p0 p1 p2 p3 p4)), .val (.int (v0_257 p0 p1 p2 p3 p4)), .val (.int (v0_273 p0 p1 p2 p3 p4)), .val (.int (0 : Int32)), .val (.int (v0_326xx p0 p1 p2 p3 p4)), .val (.int (v0_377x p0 p1 p2 p3 p4)), .val (.int (v0_393x p0 p1 p2 p3 p4)), .val (.int (v0_409x p0 p1 p2 p3 p4)), .val (.int (v0_424x p0 p1 p2 p3 p4))]
def la0_67 (p0 : Int32) (p1 : Int32) (p2 : Int32) (p3 : Int32) (p4 : Int32) : Array Slot := #[.val (.int p0), .val (.int p1), .val (.int p2), .val (.int p3), .val (.int p4), .val (.int (3 : Int32)), .val (.int (v0_11 p0 p1 p2 p3 p4)), .val (.int (v0_21 p0 p1 p2 p3 p4)), .val (.int (v0_32 p0 p1 p2 p3 p4)), .val (.int (v0_41 p0 p1 p2 p3 p4)), .val (.int (v0_50 p0 p1 p2 p3 p4)), .val (.int (v0_60 p0 p1 p2 p3 p4)), .unset, .unset, .unset, .unset, .unset, .unset, .unset, .unset, .unset, .unset, .unset, .unset, .unset, .unset, .unset, .unset, .unset, .unset, .unset]
def la0_68 (p0 : Int32) (p1 : Int32) (p2 : Int32) (p3 : Int32) (p4 : Int32) (b0_64 : Addr) : Array Slot := #[.val (.int p0), .val (.int p1), .val (.int p2), .val (.int p3), .val (.int p4), .val (.int (3 : Int32)), .val (.int (v0_11 p0 p1 p2 p3 p4)), .val (.int (v0_21 p0 p1 p2 p3 p4)), .val (.int (v0_32 p0 p1 p2 p3 p4)), .val (.int (v0_41 p0 p1 p2 p3 p4)), .val (.int (v0_50 p0 p1 p2 p3 p4)), .val (.int (v0_60 p0 p1 p2 p3 p4)), .val (.ref b0_64), .unset, .unset, .unset, .unset, .unset, .unset, .unset, .unset, .unset, .unset, .unset, .unset, .unset, .unset, .unset, .unset, .unset, .unset]
def la0_69 (p0 : Int32) (p1 : Int32) (p2 : Int32) (p3 : Int32) (p4 : Int32) (b0_64 : Addr) (b0_70 : Addr) : Array Slot := #[.val (.int p0), .val (.int p1), .val (.int p2), .val (.int p3), .val (.int p4), .val (.int (3 : Int32)), .val (.int (v0_11 p0 p1 p2 p3 p4)), .val (.int (v0_21 p0 p1 p2 p3 p4)), .val (.int (v0_32 p0 p1 p2 p3 p4)), .val (.int (v0_41 p0 p1 p2 p3 p4)), .val (.int (v0_50 p0 p1 p2 p3 p4)), .val (.int (v0_60 p0 p1 p2 p3 p4)), .val (.ref b0_64), .val (.ref b0_70), .unset, .unset, .unset, .unset, .unset, .unset, .unset, .unset, .unset, .unset, .unset, .unset, .unset, .unset, .unset, .unset, .unset]
def la0_70 (p0 : Int32) (p1 : Int32) (p2 : Int32) (p3 : Int32) (p4 : Int32) (b0_64 : Addr) (b0_70 : Addr) : Array Slot := #[.val (.int p0), .val (.int p1), .val (.int p2), .val (.int p3), .val (.int p4), .val (.int (3 : Int32)), .val (.int (v0_11 p0 p1 p2 p3 p4)), .val (.int (v0_21 p0 p1 p2 p3 p4)), .val (.int (v0_32 p0 p1 p2 p3 p4)), .val (.int (v0_41 p0 p1 p2 p3 p4)), .val (.int (v0_50 p0 p1 p2 p3 p4)), .val (.int (v0_60 p0 p1 p2 p3 p4)), .val (.ref b0_64), .val (.ref b0_70), .val (.int (v0_11 p0 p1 p2 p3 p4)), .unset, .unset, .unset, .unset, .unset, .unset, .unset, .unset, .unset, .unset, .unset, .unset, .unset, .unset, .unset, .unset]
def la0_71 (p0 : Int32) (p1 : Int32) (p2 : Int32) (p3 : Int32) (p4 : Int32) (b0_64 : Addr) (b0_70 : Addr) : Array Slot := #[.val (.int p0), .val (.int p1), .val (.int p2), .val (.int p3), .val (.int p4), .val (.int (3 : Int32)), .val (.int (v0_11 p0 p1 p2 p3 p4)), .val (.int (v0_21 p0 p1 p2 p3 p4)), .val (.int (v0_32 p0 p1 p2 p3 p4)), .val (.int (v0_41 p0 p1 p2 p3 p4)), .val (.int (v0_50 p0 p1 p2 p3 p4)), .val (.int (v0_60 p0 p1 p2 p3 p4)), .val (.ref b0_64), .val (.ref b0_70), .val (.int (v0_11 p0 p1 p2 p3 p4)), .val (.int (v0_21 p0 p1 p2 p3 p4)), .unset, .unset, .unset, .unset, .unset, .unset, .unset, .unset, .unset, .unset, .unset, .unset, .unset, .unset, .unset]
def la0_72 (p0 : Int32) (p1 : Int32) (p2 : Int32) (p3 : Int32) (p4 : Int32) (b0_64 : Addr) (b0_70 : Addr) : Array Slot := #[.val (.int p0), .val (.int p1), .val (.int p2), .val (.int p3), .val (.int p4), .val (.int (3 : Int32)), .val (.int (v0_11 p0 p1 p2 p3 p4)), .val (.int (v0_21 p0 p1 p2 p3 p4)), .val (.int (v0_32 p0 p1 p2 p3 p4)), .val (.int (v0_41 p0 p1 p2 p3 p4)), .val (.int (v0_50 p0 p1 p2 p3 p4)), .val (.int (v0_60 p0 p1 p2 p3 p4)), .val (.ref b0_64), .val (.ref b0_70), .val (.int (v0_11 p0 p1 p2 p3 p4)), .val (.int (v0_21 p0 p1 p2 p3 p4)), .val (.int (v0_32 p0 p1 p2 p3 p4)), .unset, .unset, .unset, .unset, .unset, .unset, .unset, .unset, .unset, .unset, .unset, .unset, .unset, .unset]
def la0_73 (p0 : Int32) (p1 : Int32) (p2 : Int32) (p3 : Int32) (p4 : Int32) (b0_64 : Addr) (b0_70 : Addr) : Array Slot := #[.val (.int p0), .val (.int p1), .val (.int p2), .val (.int p3), .val (.int p4), .val (.int (3 : Int32)), .val (.int (v0_11 p0 p1 p2 p3 p4)), .val (.int (v0_21 p0 p1 p2 p3 p4)), .val (.int (v0_32 p0 p1 p2 p3 p4)), .val (.int (v0_41 p0 p1 p2 p3 p4)), .val (.int (v0_50 p0 p1 p2 p3 p4)), .val (.int (v0_60 p0 p1 p2 p3 p4)), .val (.ref b0_64), .val (.ref b0_70), .val (.int (v0_11 p0 p1 p2 p3 p4)), .val (.int (v0_21 p0 p1 p2 p3 p4)), .val (.int (v0_32 p0 p1 p2 p3 p4)), .val (.int (v0_41 p0 p1 p2 p3 p4)), .unset, .unset, .unset, .unset, .unset, .unset, .unset, .unset, .unset, .unset, .unset, .unset, .unset]
def la0_74 (p0 : Int32) (p1 : Int32) (p2 : Int32) (p3 : Int32) (p4 : Int32) (b0_64 : Addr) (b0_70 : Addr) : Array Slot := #[.val (.int p0), .val (.int p1), .val (.int p2), .val (.int p3), .val (.int p4), .val (.int (3 : Int32)), .val (.int (v0_11 p0 p1 p2 p3 p4)), .val (.int (v0_21 p0 p1 p2 p3 p4)), .val (.int (v0_32 p0 p1 p2 p3 p4)), .val (.int (v0_41 p0 p1 p2 p3 p4)), .val (.int (v0_50 p0 p1 p2 p3 p4)), .val (.int (v0_60 p0 p1 p2 p3 p4)), .val (.ref b0_64), .val (.ref b0_70), .val (.int (v0_11 p0 p1 p2 p3 p4)), .val (.int (v0_21 p0 p1 p2 p3 p4)), .val (.int (v0_32 p0 p1 p2 p3 p4)), .val (.int (v0_41 p0 p1 p2 p3 p4)), .val (.int (v0_50 p0 p1 p2 p3 p4)), .unset, .unset, .unset, .unset, .unset, .unset, .unset, .unset, .unset, .unset, .unset, .unset]
def la0_75 (p0 : Int32) (p1 : Int32) (p2 : Int32) (p3 : Int32) (p4 : Int32) (b0_64 : Addr) (b0_70 : Addr) : Array Slot := #[.val (.int p0), .val (.int p1), .val (.int p2), .val (.int p3), .val (.int p4), .val (.int (3 : Int32)), .val (.int (v0_11 p0 p1 p2 p3 p4)), .val (.int (v0_21 p0 p1 p2 p3 p4)), .val (.int (v0_32 p0 p1 p2 p3 p4)), .val (.int (v0_41 p0 p1 p2 p3 p4)), .val (.int (v0_50 p0 p1 p2 p3 p4)), .val (.int (v0_60 p0 p1 p2 p3 p4)), .val (.ref b0_64), .val (.ref b0_70), .val (.int (v0_11 p0 p1 p2 p3 p4)), .val (.int (v0_21 p0 p1 p2 p3 p4)), .val (.int (v0_32 p0 p1 p2 p3 p4)), .val (.int (v0_41 p0 p1 p2 p3 p4)), .val (.int (v0_50 p0 p1 p2 p3 p4)), .val (.int (v0_60 p0 p1 p2 p3 p4)), .unset, .unset, .unset, .unset, .unset, .unset, .unset, .unset, .unset, .unset, .unset]
def la0_76 (p0 : Int32) (p1 : Int32) (p2 : Int32) (p3 : Int32) (p4 : Int32) (b0_64 : Addr) (b0_70 : Addr) : Array Slot := #[.val (.int p0), .val (.int p1), .val (.int p2), .val (.int p3), .val (.int p4), .val (.int (3 : Int32)), .val (.int (v0_11 p0 p1 p2 p3 p4)), .val (.int (v0_21 p0 p1 p2 p3 p4)), .val (.int (v0_32 p0 p1 p2 p3 p4)), .val (.int (v0_41 p0 p1 p2 p3 p4)), .val (.int (v0_50 p0 p1 p2 p3 p4)), .val (.int (v0_60 p0 p1 p2 p3 p4)), .val (.ref b0_64), .val (.ref b0_70), .val (.int (v0_11 p0 p1 p2 p3 p4)), .val (.int (v0_21 p0 p1 p2 p3 p4)), .val (.int (v0_32 p0 p1 p2 p3 p4)), .val (.int (v0_41 p0 p1 p2 p3 p4)), .val (.int (v0_50 p0 p1 p2 p3 p4)), .val (.int (v0_60 p0 p1 p2 p3 p4)), .val (.int (v0_217xx p0 p1 p2 p3 p4)), .unset, .unset, .unset, .unset, .unset, .unset, .unset, .unset, .unset, .unset]
def la0_77 (p0 : Int32) (p1 : Int32) (p2 : Int32) (p3 : Int32) (p4 : Int32) (b0_64 : Addr) (b0_70 : Addr) : Array Slot := #[.val (.int p0), .val (.int p1), .val (.int p2), .val (.int p3), .val (.int p4), .val (.int (3 : Int32)), .val (.int (v0_11 p0 p1 p2 p3 p4)), .val (.int (v0_21 p0 p1 p2 p3 p4)), .val (.int (v0_32 p0 p1 p2 p3 p4)), .val (.int (v0_41 p0 p1 p2 p3 p4)), .val (.int (v0_50 p0 p1 p2 p3 p4)), .val (.int (v0_60 p0 p1 p2 p3 p4)), .val (.ref b0_64), .val (.ref b0_70), .val (.int (v0_11 p0 p1 p2 p3 p4)), .val (.int (v0_21 p0 p1 p2 p3 p4)), .val (.int (v0_32 p0 p1 p2 p3 p4)), .val (.int (v0_41 p0 p1 p2 p3 p4)), .val (.int (v0_50 p0 p1 p2 p3 p4)), .val (.int (v0_60 p0 p1 p2 p3 p4)), .val (.int (v0_217xx p0 p1 p2 p3 p4)), .val (.int (v0_233xx p0 p1 p2 p3 p4)), .unset, .unset, .unset, .unset, .unset, .unset, .unset, .unset, .unset]
def la0_78 (p0 : Int32) (p1 : Int32) (p2 : Int32) (p3 : Int32) (p4 : Int32) (b0_64 : Addr) (b0_70 : Addr) : Array Slot := #[.val (.int p0), .val (.int p1), .val (.int p2), .val (.int p3), .val (.int p4), .val (.int (3 : Int32)), .val (.int (v0_11 p0 p1 p2 p3 p4)), .val (.int (v0_21 p0 p1 p2 p3 p4)), .val (.int (v0_32 p0 p1 p2 p3 p4)), .val (.int (v0_41 p0 p1 p2 p3 p4)), .val (.int (v0_50 p0 p1 p2 p3 p4)), .val (.int (v0_60 p0 p1 p2 p3 p4)), .val (.ref b0_64), .val (.ref b0_70), .val (.int (v0_11 p0 p1 p2 p3 p4)), .val (.int (v0_21 p0 p1 p2 p3 p4)), .val (.int (v0_32 p0 p1 p2 p3 p4)), .val (.int (v0_41 p0 p1 p2 p3 p4)), .val (.int (v0_50 p0 p1 p2 p3 p4)), .val (.int (v0_60 p0 p1 p2 p3 p4)), .val (.int (v0_217xx p0 p1 p2 p3 p4)), .val (.int (v0_233xx p0 p1 p2 p3 p4)), .val (.int (v0_242xx p0 p1 p2 p3 p4)), .unset, .unset, .unset, .unset, .unset, .unset, .unset, .unset]
def la0_79 (p0 : Int32) (p1 : Int32) (p2 : Int32) (p3 : Int32) (p4 : Int32) (b0_64 : Addr) (b0_70 : Addr) : Array Slot := #[.val (.int p0), .val (.int p1), .val (.int p2), .val (.int p3), .val (.int p4), .val (.int (3 : Int32)), .val (.int (v0_11 p0 p1 p2 p3 p4)), .val (.int (v0_21 p0 p1 p2 p3 p4)), .val (.int (v0_32 p0 p1 p2 p3 p4)), .val (.int (v0_41 p0 p1 p2 p3 p4)), .val (.int (v0_50 p0 p1 p2 p3 p4)), .val (.int (v0_60 p0 p1 p2 p3 p4)), .val (.ref b0_64), .val (.ref b0_70), .val (.int (v0_11 p0 p1 p2 p3 p4)), .val (.int (v0_21 p0 p1 p2 p3 p4)), .val (.int (v0_32 p0 p1 p2 p3 p4)), .val (.int (v0_41 p0 p1 p2 p3 p4)), .val (.int (v0_50 p0 p1 p2 p3 p4)), .val (.int (v0_60 p0 p1 p2 p3 p4)), .val (.int (v0_217xx p0 p1 p2 p3 p4)), .val (.int (v0_233xx p0 p1 p2 p3 p4)), .val (.int (v0_242xx p0 p1 p2 p3 p4)), .val (.int (v0_257 p0 p1 p2 p3 p4)), .unset, .unset, .unset, .unset, .unset, .unset, .unset]
def la0_80 (p0 : Int32) (p1 : Int32) (p2 : Int32) (p3 : Int32) (p4 : Int32) (b0_64 : Addr) (b0_70 : Addr) : Array Slot := #[.val (.int p0), .val (.int p1), .val (.int p2), .val (.int p3), .val (.int p4), .val (.int (3 : Int32)), .val (.int (v0_11 p0 p1 p2 p3 p4)), .val (.int (v0_21 p0 p1 p2 p3 p4)), .val (.int (v0_32 p0 p1 p2 p3 p4)), .val (.int (v0_41 p0 p1 p2 p3 p4)), .val (.int (v0_50 p0 p1 p2 p3 p4)), .val (.int (v0_60 p0 p1 p2 p3 p4)), .val (.ref b0_64), .val (.ref b0_70), .val (.int (v0_11 p0 p1 p2 p3 p4)), .val (.int (v0_21 p0 p1 p2 p3 p4)), .val (.int (v0_32 p0 p1 p2 p3 p4)), .val (.int (v0_41 p0 p1 p2 p3 p4)), .val (.int (v0_50 p0 p1 p2 p3 p4)), .val (.int (v0_60 p0 p1 p2 p3 p4)), .val (.int (v0_217xx p0 p1 p2 p3 p4)), .val (.int (v0_233xx p0 p1 p2 p3 p4)), .val (.int (v0_242xx p0 p1 p2 p3 p4)), .val (.int (v0_257 p0 p1 p2 p3 p4)), .val (.int (v0_273 p0 p1 p2 p3 p4)), .unset, .unset, .unset, .unset, .unset, .unset]
def la0_81 (p0 : Int32) (p1 : Int32) (p2 : Int32) (p3 : Int32) (p4 : Int32) (b0_64 : Addr) (b0_70 : Addr) : Array Slot := #[.val (.int p0), .val (.int p1), .val (.int p2), .val (.int p3), .val (.int p4), .val (.int (3 : Int32)), .val (.int (v0_11 p0 p1 p2 p3 p4)), .val (.int (v0_21 p0 p1 p2 p3 p4)), .val (.int (v0_32 p0 p1 p2 p3 p4)), .val (.int (v0_41 p0 p1 p2 p3 p4)), .val (.int (v0_50 p0 p1 p2 p3 p4)), .val (.int (v0_60 p0 p1 p2 p3 p4)), .val (.ref b0_64), .val (.ref b0_70), .val (.int (v0_11 p0 p1 p2 p3 p4)), .val (.int (v0_21 p0 p1 p2 p3 p4)), .val (.int (v0_32 p0 p1 p2 p3 p4)), .val (.int (v0_41 p0 p1 p2 p3 p4)), .val (.int (v0_50 p0 p1 p2 p3 p4)), .val (.int (v0_60 p0 p1 p2 p3 p4)), .val (.int (v0_217xx p0 p1 p2 p3 p4)), .val (.int (v0_233xx p0 p1 p2 p3 p4)), .val (.int (v0_242xx p0 p1 p2 p3 p4)), .val (.int (v0_257 p0 p1 p2 p3 p4)), .val (.int (v0_273 p0 p1 p2 p3 p4)), .val (.int (v0_289 p0 p1 p2 p3 p4)), .unset, .unset, .unset, .unset, .unset]
def la0_82 (p0 : Int32) (p1 : Int32) (p2 : Int32) (p3 : Int32) (p4 : Int32) (b0_64 : Addr) (b0_70 : Addr) : Array Slot := #[.val (.int p0), .val (.int p1), .val (.int p2), .val (.int p3), .val (.int p4), .val (.int (3 : Int32)), .val (.int (v0_11 p0 p1 p2 p3 p4)), .val (.int (v0_21 p0 p1 p2 p3 p4)), .val (.int (v0_32 p0 p1 p2 p3 p4)), .val (.int (v0_41 p0 p1 p2 p3 p4)), .val (.int (v0_50 p0 p1 p2 p3 p4)), .val (.int (v0_60 p0 p1 p2 p3 p4)), .val (.ref b0_64), .val (.ref b0_70), .val (.int (v0_11 p0 p1 p2 p3 p4)), .val (.int (v0_21 p0 p1 p2 p3 p4)), .val (.int (v0_32 p0 p1 p2 p3 p4)), .val (.int (v0_41 p0 p1 p2 p3 p4)), .val (.int (v0_50 p0 p1 p2 p3 p4)), .val (.int (v0_60 p0 p1 p2 p3 p4)), .val (.int (v0_217xx p0 p1 p2 p3 p4)), .val (.int (v0_233xx p0 p1 p2 p3 p4)), .val (.int (v0_242xx p0 p1 p2 p3 p4)), .val (.int (v0_257 p0 p1 p2 p3 p4)), .val (.int (v0_273 p0 p1 p2 p3 p4)), .val (.int (v0_289 p0 p1 p2 p3 p4)), .val (.int (v0_326xxx p0 p1 p2 p3 p4)), .unset, .unset, .unset, .unset]
def la0_83 (p0 : Int32) (p1 : Int32) (p2 : Int32) (p3 : Int32) (p4 : Int32) (b0_64 : Addr) (b0_70 : Addr) : Array Slot := #[.val (.int p0), .val (.int p1), .val (.int p2), .val (.int p3), .val (.int p4), .val (.int (3 : Int32)), .val (.int (v0_11 p0 p1 p2 p3 p4)), .val (.int (v0_21 p0 p1 p2 p3 p4)), .val (.int (v0_32 p0 p1 p2 p3 p4)), .val (.int (v0_41 p0 p1 p2 p3 p4)), .val (.int (v0_50 p0 p1 p2 p3 p4)), .val (.int (v0_60 p0 p1 p2 p3 p4)), .val (.ref b0_64), .val (.ref b0_70), .val (.int (v0_11 p0 p1 p2 p3 p4)), .val (.int (v0_21 p0 p1 p2 p3 p4)), .val (.int (v0_32 p0 p1 p2 p3 p4)), .val (.int (v0_41 p0 p1 p2 p3 p4)), .val (.int (v0_50 p0 p1 p2 p3 p4)), .val (.int (v0_60 p0 p1 p2 p3 p4)), .val (.int (v0_217xx p0 p1 p2 p3 p4)), .val (.int (v0_233xx p0 p1 p2 p3 p4)), .val (.int (v0_242xx p0 p1 p2 p3 p4)), .val (.int (v0_257 p0 p1 p2 p3 p4)), .val (.int (v0_273 p0 p1 p2 p3 p4)), .val (.int (v0_289 p0 p1 p2 p3 p4)), .val (.int (v0_326xxx p0 p1 p2 p3 p4)), .val (.int (v0_377xx p0 p1 p2 p3 p4)), .unset, .unset, .unset]
def la0_84 (p0 : Int32) (p1 : Int32) (p2 : Int32) (p3 : Int32) (p4 : Int32) (b0_64 : Addr) (b0_70 : Addr) : Array Slot := #[.val (.int p0), .val (.int p1), .val (.int p2), .val (.int p3), .val (.int p4), .val (.int (3 : Int32)), .val (.int (v0_11 p0 p1 p2 p3 p4)), .val (.int (v0_21 p0 p1 p2 p3 p4)), .val (.int (v0_32 p0 p1 p2 p3 p4)), .val (.int (v0_41 p0 p1 p2 p3 p4)), .val (.int (v0_50 p0 p1 p2 p3 p4)), .val (.int (v0_60 p0 p1 p2 p3 p4)), .val (.ref b0_64), .val (.ref b0_70), .val (.int (v0_11 p0 p1 p2 p3 p4)), .val (.int (v0_21 p0 p1 p2 p3 p4)), .val (.int (v0_32 p0 p1 p2 p3 p4)), .val (.int (v0_41 p0 p1 p2 p3 p4)), .val (.int (v0_50 p0 p1 p2 p3 p4)), .val (.int (v0_60 p0 p1 p2 p3 p4)), .val (.int (v0_217xx p0 p1 p2 p3 p4)), .val (.int (v0_233xx p0 p1 p2 p3 p4)), .val (.int (v0_242xx p0 p1 p2 p3 p4)), .val (.int (v0_257 p0 p1 p2 p3 p4)), .val (.int (v0_273 p0 p1 p2 p3 p4)), .val (.int (v0_289 p0 p1 p2 p3 p4)), .val (.int (v0_326xxx p0 p1 p2 p3 p4)), .val (.int (v0_377xx p0 p1 p2 p3 p4)), .val (.int (v0_393xx p0 p1 p2 p3 p4)), .unset, .unset]
def la0_85 (p0 : Int32) (p1 : Int32) (p2 : Int32) (p3 : Int32) (p4 : Int32) (b0_64 : Addr) (b0_70 : Addr) : Array Slot := #[.val (.int p0), .val (.int p1), .val (.int p2), .val (.int p3), .val (.int p4), .val (.int (3 : Int32)), .val (.int (v0_11 p0 p1 p2 p3 p4)), .val (.int (v0_21 p0 p1 p2 p3 p4)), .val (.int (v0_32 p0 p1 p2 p3 p4)), .val (.int (v0_41 p0 p1 p2 p3 p4)), .val (.int (v0_50 p0 p1 p2 p3 p4)), .val (.int (v0_60 p0 p1 p2 p3 p4)), .val (.ref b0_64), .val (.ref b0_70), .val (.int (v0_11 p0 p1 p2 p3 p4)), .val (.int (v0_21 p0 p1 p2 p3 p4)), .val (.int (v0_32 p0 p1 p2 p3 p4)), .val (.int (v0_41 p0 p1 p2 p3 p4)), .val (.int (v0_50 p0 p1 p2 p3 p4)), .val (.int (v0_60 p0 p1 p2 p3 p4)), .val (.int (v0_217xx p0 p1 p2 p3 p4)), .val (.int (v0_233xx p0 p1 p2 p3 p4)), .val (.int (v0_242xx p0 p1 p2 p3 p4)), .val (.int (v0_257 p0 p1 p2 p3 p4)), .val (.int (v0_273 p0 p1 p2 p3 p4)), .val (.int (v0_289 p0 p1 p2 p3 p4)), .val (.int (v0_326xxx p0 p1 p2 p3 p4)), .val (.int (v0_377xx p0 p1 p2 p3 p4)), .val (.int (v0_393xx p0 p1 p2 p3 p4)), .val (.int (v0_409xx p0 p1 p2 p3 p4)), .unset]
def la0_86 (p0 : Int32) (p1 : Int32) (p2 : Int32) (p3 : Int32) (p4 : Int32) (b0_64 : Addr) (b0_70 : Addr) : Array Slot := #[.val (.int p0), .val (.int p1), .val (.int p2), .val (.int p3), .val (.int p4), .val (.int (3 : Int32)), .val (.int (v0_11 p0 p1 p2 p3 p4)), .val (.int (v0_21 p0 p1 p2 p3 p4)), .val (.int (v0_32 p0 p1 p2 p3 p4)), .val (.int (v0_41 p0 p1 p2 p3 p4)), .val (.int (v0_50 p0 p1 p2 p3 p4)), .val (.int (v0_60 p0 p1 p2 p3 p4)), .val (.ref b0_64), .val (.ref b0_70), .val (.int (v0_11 p0 p1 p2 p3 p4)), .val (.int (v0_21 p0 p1 p2 p3 p4)), .val (.int (v0_32 p0 p1 p2 p3 p4)), .val (.int (v0_41 p0 p1 p2 p3 p4)), .val (.int (v0_50 p0 p1 p2 p3 p4)), .val (.int (v0_60 p0 p1 p2 p3 p4)), .val (.int (v0_217xx p0 p1 p2 p3 p4)), .val (.int (v0_233xx p0 p1 p2 p3 p4)), .val (.int (v0_242xx p0 p1 p2 p3 p4)), .val (.int (v0_257 p0 p1 p2 p3 p4)), .val (.int (v0_273 p0 p1 p2 p3 p4)), .val (.int (v0_289 p0 p1 p2 p3 p4)), .val (.int (v0_326xxx p0 p1 p2 p3 p4)), .val (.int (v0_377xx p0 p1 p2 p3 p4)), .val (.int (v0_393xx p0 p1 p2 p3 p4)), .val (.int (v0_409xx p0 p1 p2 p3 p4)), .val (.int (v0_424xx p0 p1 p2 p3 p4))]
def la0_87 (p0 : Int32) (p1 : Int32) (p2 : Int32) (p3 : Int32) (p4 : Int32) : Array Slot := #[.val (.int p0), .val (.int p1), .val (.int p2), .val (.int p3), .val (.int p4), .unset, .unset, .unset, .unset, .unset, .unset, .unset, .unset, .unset, .unset, .unset, .unset, .unset, .unset, .unset, .unset, .unset, .unset, .unset, .unset, .unset, .unset, .unset, .unset, .unset, .unset]
def f0_0 (p0 : Int32) (p1 : Int32) (p2 : Int32) (p3 : Int32) (p4 : Int32) : Int32 := (if (v0_326 p0 p1 p2 p3 p4) = (0 : Int32) then (0 : Int32) else (if f1_0 = (0 : Int32) then (1 : Int32) else (0 : Int32)))
def f0_1 (p0 : Int32) (p1 : Int32) (p2 : Int32) (p3 : Int32) (p4 : Int32) : Int32 := (if (v0_326x p0 p1 p2 p3 p4) = (0 : Int32) then (0 : Int32) else (if (v0_377 p0 p1 p2 p3 p4) = (0 : Int32) then (0 : Int32) else (if (v0_242 p0 p1 p2 p3 p4) = (v0_448_s0 p0 p1 p2 p3 p4) then (if (v0_393 p0 p1 p2 p3 p4) = (v0_424 p0 p1 p2 p3 p4) then (1 : Int32) else (0 : Int32)) else (0 : Int32))))
def f0_2 (p0 : Int32) (p1 : Int32) (p2 : Int32) (p3 : Int32) (p4 : Int32) : Int32 := (if (v0_326xx p0 p1 p2 p3 p4) = (0 : Int32) then (0 : Int32) else (if (v0_377x p0 p1 p2 p3 p4) = (0 : Int32) then (0 : Int32) else (if (v0_242x p0 p1 p2 p3 p4) = (v0_448_s0x p0 p1 p2 p3 p4) then (if (v0_393x p0 p1 p2 p3 p4) = (v0_424x p0 p1 p2 p3 p4) then (1 : Int32) else (0 : Int32)) else (0 : Int32))))
def f0_3 (p0 : Int32) (p1 : Int32) (p2 : Int32) (p3 : Int32) (p4 : Int32) : Int32 := (if (v0_326xxx p0 p1 p2 p3 p4) = (0 : Int32) then (0 : Int32) else (if (v0_377xx p0 p1 p2 p3 p4) = (0 : Int32) then (0 : Int32) else (if (v0_242xx p0 p1 p2 p3 p4) = (v0_448_s0xx p0 p1 p2 p3 p4) then (if (v0_393xx p0 p1 p2 p3 p4) = (v0_424xx p0 p1 p2 p3 p4) then (1 : Int32) else (0 : Int32)) else (0 : Int32))))
theorem own_rem (x y : Int32) (d : Int) (hy : y.toInt = d) : (0 ≤ x.toInt → (x - (x / y) * y).toInt = x.toInt % d) ∧ (x.toInt < 0 → (x - (x / y) * y).toInt = -((-x.toInt) % d)) := by
  rw [rem_toInt, hy]
  exact tr _ _
theorem own_n0 : nar .boolean (0 : Int32) = 0 := by decide
theorem own_n1 : nar .boolean (1 : Int32) = 1 := by decide
theorem own_lt (x y : Int32) : x < y ↔ x.toInt < y.toInt := Int32.lt_iff_toInt_lt
theorem own_eq (x y : Int32) : x = y ↔ x.toInt = y.toInt := Int32.toInt_inj.symm
theorem own_four (x : Int32) : (x &&& (3 : Int32)) = 0 ∨ (x &&& (3 : Int32)) = 1 ∨ (x &&& (3 : Int32)) = 2 ∨ (x &&& (3 : Int32)) = 3 := by
  have h := c_mask x 3 2 (by decide) (by decide)
  have e0 : (0 : Int32).toInt = 0 := by decide
  have e1 : (1 : Int32).toInt = 1 := by decide
  have e2 : (2 : Int32).toInt = 2 := by decide
  have e3 : (3 : Int32).toInt = 3 := by decide
  simp only [own_eq, e0, e1, e2, e3, h]
  omega
theorem own_mulb {x y A B : Int} (hx : 0 ≤ x) (hx2 : x ≤ A) (hy : 0 ≤ y) (hy2 : y ≤ B) : 0 ≤ x * y ∧ x * y ≤ A * B := ⟨Int.mul_nonneg hx hy, Int.mul_le_mul hx2 hy2 hy (Int.le_trans hx hx2)⟩
theorem own_imul {x y : Int32} {A B : Int} (hx : 0 ≤ x.toInt) (hx2 : x.toInt ≤ A) (hy : 0 ≤ y.toInt) (hy2 : y.toInt ≤ B) (hAB : A * B < 2147483648) : (x * y).toInt = x.toInt * y.toInt := by
  have b := own_mulb hx hx2 hy hy2
  have c := c_imul x y
  have t1 := (x * y).toInt_lt
  have t2 := (x * y).le_toInt
  omega
/-- one digit d of the radix r, the number M of those above, and how many N they can be -/
theorem own_step {d r M N : Int32} (r1 : 1 ≤ r.toInt) (r2 : r.toInt ≤ 16) (d1 : 0 ≤ d.toInt) (d2 : d.toInt < r.toInt) (m1 : 0 ≤ M.toInt) (m2 : M.toInt < N.toInt) (n1 : N.toInt ≤ 256) :
    (d + r * M).toInt = d.toInt + r.toInt * M.toInt ∧ (r * N).toInt = r.toInt * N.toInt ∧ 0 ≤ r.toInt * M.toInt ∧ r.toInt * M.toInt + r.toInt ≤ r.toInt * N.toInt ∧ r.toInt * N.toInt ≤ 16 * N.toInt ∧ (M.toInt + 1 = N.toInt → r.toInt * M.toInt + r.toInt = r.toInt * N.toInt) ∧ (M.toInt + 1 ≠ N.toInt → r.toInt * M.toInt + r.toInt < r.toInt * N.toInt) := by
  have e1 : (r * M).toInt = r.toInt * M.toInt := own_imul (A := 16) (B := 256) (by omega) r2 m1 (by omega) (by decide)
  have e2 : (r * N).toInt = r.toInt * N.toInt := own_imul (A := 16) (B := 256) (by omega) r2 (by omega) n1 (by decide)
  have b1 := own_mulb (x := r.toInt) (y := M.toInt) (A := 16) (B := 256) (by omega) r2 m1 (by omega)
  have b2 := own_mulb (x := r.toInt) (y := N.toInt) (A := 16) (B := N.toInt) (by omega) r2 (by omega) (by omega)
  have k : r.toInt * (M.toInt + 1) ≤ r.toInt * N.toInt := Int.mul_le_mul_of_nonneg_left (by omega) (by omega)
  have k2 : r.toInt * (M.toInt + 1) = r.toInt * M.toInt + r.toInt := by rw [Int.mul_add, Int.mul_one]
  have a := c_iadd d (r * M)
  have t1 := (d + r * M).toInt_lt
  have t2 := (d + r * M).le_toInt
  rw [e1] at a
  refine ⟨by omega, e2, b1.1, by omega, b2.2, fun q => by rw [← k2, q], fun q => ?_⟩
  have k3 : r.toInt * (M.toInt + 1) < r.toInt * N.toInt := Int.mul_lt_mul_of_pos_left (by omega) (by omega)
  omega
theorem own_z : (0 : Int32).toInt = 0 := by decide
theorem own_o : (1 : Int32).toInt = 1 := by decide
theorem own_range {g e : Int32} (h1 : 0 ≤ g.toInt) (h2 : g.toInt < e.toInt) : f2 g e = 1 := by
  unfold f2
  rw [if_neg, if_pos, own_n1]
  · rw [own_lt]; exact h2
  · rw [own_lt, own_z]; omega
theorem own_r01 : f2 0 1 = 1 := by decide
theorem own_10 : ¬ ((1 : Int32) = 0) := by decide
/-- d counted on by one: below r, or 0 again -/
def own_nx (d r : Int32) : Int32 := if (d + 1) < r then d + 1 else 0
theorem own_inc {d r : Int32} (r2 : r.toInt ≤ 16) (d1 : 0 ≤ d.toInt) (d2 : d.toInt < r.toInt) : (d + 1).toInt = d.toInt + 1 := by
  have a := c_iadd d 1
  have t1 := (d + (1 : Int32)).toInt_lt
  have t2 := (d + (1 : Int32)).le_toInt
  rw [own_o] at a
  omega
theorem own_mask15 (y : Int32) : 1 ≤ ((y &&& (15 : Int32)) + (1 : Int32)).toInt ∧ ((y &&& (15 : Int32)) + (1 : Int32)).toInt ≤ 16 := by
  have h := c_mask y 15 4 (by decide) (by decide)
  have a := c_iadd (y &&& (15 : Int32)) 1
  have t1 := ((y &&& (15 : Int32)) + (1 : Int32)).toInt_lt
  have t2 := ((y &&& (15 : Int32)) + (1 : Int32)).le_toInt
  rw [own_o] at a
  omega
theorem own_R0 (a b c d e : Int32) : 1 ≤ (v0_11 a b c d e).toInt ∧ (v0_11 a b c d e).toInt ≤ 16 := own_mask15 _
theorem own_R1 (a b c d e : Int32) : 1 ≤ (v0_21 a b c d e).toInt ∧ (v0_21 a b c d e).toInt ≤ 16 := own_mask15 _
theorem own_R2 (a b c d e : Int32) : 1 ≤ (v0_32 a b c d e).toInt ∧ (v0_32 a b c d e).toInt ≤ 16 := own_mask15 _
theorem own_nz {r : Int32} (h : 1 ≤ r.toInt) : r ≠ 0 := by
  intro q
  rw [q, own_z] at h
  omega
theorem own_nz0 (a b c d e : Int32) : v0_11 a b c d e ≠ 0 := own_nz (own_R0 a b c d e).1
theorem own_nz1 (a b c d e : Int32) : v0_21 a b c d e ≠ 0 := own_nz (own_R1 a b c d e).1
theorem own_nz2 (a b c d e : Int32) : v0_32 a b c d e ≠ 0 := own_nz (own_R2 a b c d e).1
theorem own_dig (x r : Int32) (h : 1 ≤ r.toInt) : 0 ≤ ((x &&& (2147483647 : Int32)) - ((x &&& (2147483647 : Int32)) / r) * r).toInt ∧ ((x &&& (2147483647 : Int32)) - ((x &&& (2147483647 : Int32)) / r) * r).toInt < r.toInt := by
  have h1 := c_mask x 2147483647 31 (by decide) (by decide)
  have h2 := (own_rem (x &&& (2147483647 : Int32)) r r.toInt rfl).1 (by omega)
  rw [h2]
  exact ⟨Int.emod_nonneg _ (by omega), Int.emod_lt_of_pos _ (by omega)⟩
theorem own_D0 (a b c d e : Int32) : 0 ≤ (v0_41 a b c d e).toInt ∧ (v0_41 a b c d e).toInt < (v0_11 a b c d e).toInt := own_dig _ _ (own_R0 a b c d e).1
theorem own_D1 (a b c d e : Int32) : 0 ≤ (v0_50 a b c d e).toInt ∧ (v0_50 a b c d e).toInt < (v0_21 a b c d e).toInt := own_dig _ _ (own_R1 a b c d e).1
theorem own_D2 (a b c d e : Int32) : 0 ≤ (v0_60 a b c d e).toInt ∧ (v0_60 a b c d e).toInt < (v0_32 a b c d e).toInt := own_dig _ _ (own_R2 a b c d e).1
/-- what an odometer of the number B below T says of the number A behind: all that the law compares -/
theorem own_fin {B T A : Int32} {res : Int32} (b1 : 0 ≤ B.toInt) (b2 : B.toInt < T.toInt) (t : T.toInt ≤ 4096) (h : (res = 1 ∧ A.toInt = B.toInt + 1 ∧ B.toInt + 1 ≠ T.toInt) ∨ (res = 0 ∧ A.toInt = 0 ∧ B.toInt + 1 = T.toInt)) :
    res = (if (if (B + 1) = T then (1 : Int32) else 0) = (0 : Int32) then (1 : Int32) else 0) ∧ A = (if (if (B + 1) = T then (1 : Int32) else 0) = (0 : Int32) then (B + 1) else 0) := by
  have a := c_iadd B 1
  have t1 := (B + (1 : Int32)).toInt_lt
  have t2 := (B + (1 : Int32)).le_toInt
  rw [own_o] at a
  have e : (B + 1).toInt = B.toInt + 1 := by omega
  rcases h with ⟨h1, h2, h3⟩ | ⟨h1, h2, h3⟩
  · have q : ¬ ((B + 1) = T) := by rw [own_eq, e]; exact h3
    rw [if_neg q, if_pos rfl, if_pos rfl]
    exact ⟨h1, by rw [own_eq, e]; exact h2⟩
  · have q : (B + 1) = T := by rw [own_eq, e]; exact h3
    rw [if_pos q, if_neg own_10, if_neg own_10]
    exact ⟨h1, by rw [own_eq, own_z]; exact h2⟩
theorem own_plain_0 (a b c d e : Int32) : f0_0 a b c d e = 1 := by
  unfold f0_0 v0_326 f1_0
  rw [own_r01, if_neg own_10, if_neg own_10, own_n0, if_pos rfl]
theorem own_up {d r M N : Int32} (r1 : 1 ≤ r.toInt) (r2 : r.toInt ≤ 16) (d1 : 0 ≤ d.toInt) (m1 : 0 ≤ M.toInt) (m2 : M.toInt < N.toInt) (n1 : N.toInt ≤ 256) (c : d.toInt + 1 < r.toInt) :
    ((d + 1) + r * M).toInt = (d + r * M).toInt + 1 ∧ (d + r * M).toInt + 1 ≠ (r * N).toInt := by
  obtain ⟨s1, s2, s3, s4, s5, -, -⟩ := own_step r1 r2 d1 (by omega) m1 m2 n1
  have e := own_inc r2 d1 (by omega)
  obtain ⟨t1, -, -, -, -, -, -⟩ := own_step (d := d + 1) r1 r2 (by omega) (by omega) m1 m2 n1
  rw [s1, s2, t1, e]
  omega
theorem own_over {d r M N M' : Int32} (r1 : 1 ≤ r.toInt) (r2 : r.toInt ≤ 16) (d1 : 0 ≤ d.toInt) (m1 : 0 ≤ M.toInt) (m2 : M.toInt < N.toInt) (n1 : N.toInt ≤ 256) (c : d.toInt + 1 = r.toInt)
    (h : (M'.toInt = M.toInt + 1 ∧ M.toInt + 1 ≠ N.toInt) ∨ (M'.toInt = 0 ∧ M.toInt + 1 = N.toInt)) :
    ((0 + r * M').toInt = (d + r * M).toInt + 1 ∧ (d + r * M).toInt + 1 ≠ (r * N).toInt) ∨ ((0 + r * M').toInt = 0 ∧ (d + r * M).toInt + 1 = (r * N).toInt) := by
  obtain ⟨s1, s2, s3, s4, s5, s6, s7⟩ := own_step r1 r2 d1 (by omega) m1 m2 n1
  have hz := own_z
  rcases h with ⟨h1, h2⟩ | ⟨h1, h2⟩
  · left
    obtain ⟨t1, -, -, -, -, -, -⟩ := own_step (d := 0) (M := M') (N := N) r1 r2 (by omega) (by omega) (by omega) (by omega) n1
    have k := s7 h2
    have k2 : r.toInt * M'.toInt = r.toInt * M.toInt + r.toInt := by rw [h1, Int.mul_add, Int.mul_one]
    rw [s1, s2, t1, k2, hz]
    omega
  · right
    obtain ⟨t1, -, -, -, -, -, -⟩ := own_step (d := 0) (M := M') (N := N) r1 r2 (by omega) (by omega) (by omega) (by omega) n1
    have k := s6 h2
    have k2 : r.toInt * M'.toInt = 0 := by rw [h1, Int.mul_zero]
    rw [s1, s2, t1, k2, hz]
    omega
theorem own_last {a b : Int32} {x y z w : Int32} (h1 : a = 1) (h2 : b = 1) (h3 : x = y) (h4 : z = w) : (if a = (0 : Int32) then (0 : Int32) else (if b = (0 : Int32) then (0 : Int32) else (if x = y then (if z = w then (1 : Int32) else (0 : Int32)) else (0 : Int32)))) = 1 := by
  rw [h1, h2, if_neg own_10, if_neg own_10, if_pos h3, if_pos h4]
theorem own_plain_1 (a b c d e : Int32) : f0_1 a b c d e = 1 := by
  obtain ⟨r1, r2⟩ := own_R0 a b c d e
  obtain ⟨d1, d2⟩ := own_D0 a b c d e
  have hz := own_z
  have ho := own_o
  have i0 := own_inc r2 d1 d2
  have s0 := own_step (M := 0) (N := 1) r1 r2 d1 d2 (by omega) (by omega) (by omega)
  have hT : v0_217 a b c d e = v0_11 a b c d e * 1 := Int32.mul_one _
  have key : ∀ g0 res : Int32, v0_257 a b c d e = g0 → v0_242 a b c d e = res → (0 ≤ g0.toInt ∧ g0.toInt < (v0_11 a b c d e).toInt) → ((res = 1 ∧ (g0 + v0_11 a b c d e * 0).toInt = (v0_41 a b c d e + v0_11 a b c d e * 0).toInt + 1 ∧ (v0_41 a b c d e + v0_11 a b c d e * 0).toInt + 1 ≠ (v0_11 a b c d e * 1).toInt) ∨ (res = 0 ∧ (g0 + v0_11 a b c d e * 0).toInt = 0 ∧ (v0_41 a b c d e + v0_11 a b c d e * 0).toInt + 1 = (v0_11 a b c d e * 1).toInt)) → f0_1 a b c d e = 1 := by
    intro g0 res e0 er hr hk
    have q := own_fin (B := v0_233 a b c d e) (T := v0_217 a b c d e) (A := v0_393 a b c d e) (res := res) (by show 0 ≤ (v0_41 a b c d e + v0_11 a b c d e * 0).toInt; omega) (by rw [hT]; show (v0_41 a b c d e + v0_11 a b c d e * 0).toInt < _; omega) (by rw [hT]; omega) (by rw [hT]; unfold v0_393 v0_233; rw [e0]; exact hk)
    have w1 : v0_326x a b c d e = 1 := by
      unfold v0_326x
      rw [e0, own_range hr.1 hr.2, own_r01, if_neg own_10, if_neg own_10]
    have w2 : v0_377 a b c d e = 1 := by unfold v0_377; rw [if_pos rfl]
    exact own_last w1 w2 (er.trans q.1) q.2
  by_cases c0 : (v0_41 a b c d e + 1) < v0_11 a b c d e
  · have c0' := (own_lt _ _).mp c0
    rw [i0] at c0'
    refine key (v0_41 a b c d e + 1) 1 (by unfold v0_257; rw [if_pos c0]) (by unfold v0_242 f1_1; rw [if_pos c0, own_n1]) ⟨by omega, by omega⟩ (Or.inl ⟨rfl, ?_⟩)
    exact own_up r1 r2 d1 (by omega) (by omega) (by omega) c0'
  · have c0' := (not_congr (own_lt _ _)).mp c0
    rw [i0] at c0'
    refine key 0 0 (by unfold v0_257; rw [if_neg c0]) (by unfold v0_242 f1_1; rw [if_neg c0, own_n0]) ⟨by omega, by omega⟩ (Or.inr ⟨rfl, ?_⟩)
    have k := own_over (M := 0) (N := 1) (M' := 0) r1 r2 d1 (by omega) (by omega) (by omega) (by omega) (Or.inr ⟨by omega, by omega⟩)
    rcases k with k | k
    · exact absurd k (by omega)
    · exact k
theorem own_plain_2 (a b c d e : Int32) : f0_2 a b c d e = 1 := by
  obtain ⟨r1, r2⟩ := own_R0 a b c d e
  obtain ⟨d1, d2⟩ := own_D0 a b c d e
  obtain ⟨r1', r2'⟩ := own_R1 a b c d e
  obtain ⟨d1', d2'⟩ := own_D1 a b c d e
  have hz := own_z
  have ho := own_o
  have i0 := own_inc r2 d1 d2
  have i1 := own_inc r2' d1' d2'
  obtain ⟨sa, sb, sc, sd, se, sf, sg⟩ := own_step (M := 0) (N := 1) r1' r2' d1' d2' (by omega) (by omega) (by omega)
  generalize hM : v0_50 a b c d e + v0_21 a b c d e * 0 = M at *
  generalize hN : v0_21 a b c d e * 1 = N at *
  have m1 : 0 ≤ M.toInt := by omega
  have m2 : M.toInt < N.toInt := by omega
  have n1 : N.toInt ≤ 256 := by omega
  obtain ⟨ta, tb, tc, td, te, tf, tg⟩ := own_step (M := M) (N := N) r1 r2 d1 d2 m1 m2 n1
  have hB : v0_233x a b c d e = v0_41 a b c d e + v0_11 a b c d e * M := by unfold v0_233x; rw [hM]
  have hT : v0_217x a b c d e = v0_11 a b c d e * N := by unfold v0_217x; rw [Int32.mul_assoc, hN]
  have key : ∀ g0 g1 res M' : Int32, v0_257 a b c d e = g0 → v0_273 a b c d e = g1 → v0_242x a b c d e = res → g1 + v0_21 a b c d e * 0 = M' → (0 ≤ g0.toInt ∧ g0.toInt < (v0_11 a b c d e).toInt) → (0 ≤ g1.toInt ∧ g1.toInt < (v0_21 a b c d e).toInt) → ((res = 1 ∧ (g0 + v0_11 a b c d e * M').toInt = (v0_41 a b c d e + v0_11 a b c d e * M).toInt + 1 ∧ (v0_41 a b c d e + v0_11 a b c d e * M).toInt + 1 ≠ (v0_11 a b c d e * N).toInt) ∨ (res = 0 ∧ (g0 + v0_11 a b c d e * M').toInt = 0 ∧ (v0_41 a b c d e + v0_11 a b c d e * M).toInt + 1 = (v0_11 a b c d e * N).toInt)) → f0_2 a b c d e = 1 := by
    intro g0 g1 res M' e0 e1 er eM hr hr' hk
    have q := own_fin (B := v0_233x a b c d e) (T := v0_217x a b c d e) (A := v0_393x a b c d e) (res := res) (by rw [hB]; omega) (by rw [hB, hT]; omega) (by rw [hT]; omega) (by rw [hB, hT]; unfold v0_393x; rw [e0, e1, eM]; exact hk)
    have w1 : v0_326xx a b c d e = 1 := by
      unfold v0_326xx
      rw [e0, e1, own_range hr.1 hr.2, own_range hr'.1 hr'.2, own_r01, if_neg own_10, if_neg own_10, if_neg own_10]
    have w2 : v0_377x a b c d e = 1 := by unfold v0_377x; rw [if_pos rfl, if_pos rfl]
    exact own_last w1 w2 (er.trans q.1) q.2
  by_cases c0 : (v0_41 a b c d e + 1) < v0_11 a b c d e
  · have c0' := (own_lt _ _).mp c0
    rw [i0] at c0'
    refine key (v0_41 a b c d e + 1) (v0_50 a b c d e) 1 M (by unfold v0_257; rw [if_pos c0]) (by unfold v0_273; rw [if_pos c0]) (by unfold v0_242x f1_2; rw [if_pos c0, own_n1]) hM ⟨by omega, by omega⟩ ⟨by omega, by omega⟩ (Or.inl ⟨rfl, ?_⟩)
    exact own_up r1 r2 d1 m1 m2 n1 c0'
  · have c0' := (not_congr (own_lt _ _)).mp c0
    rw [i0] at c0'
    by_cases c1 : (v0_50 a b c d e + 1) < v0_21 a b c d e
    · have c1' := (own_lt _ _).mp c1
      rw [i1] at c1'
      have k1 := own_up (M := 0) (N := 1) r1' r2' d1' (by omega) (by omega) (by omega) c1'
      rw [hM, hN] at k1
      refine key 0 (v0_50 a b c d e + 1) 1 _ (by unfold v0_257; rw [if_neg c0]) (by unfold v0_273; rw [if_neg c0, if_pos c1]) (by unfold v0_242x f1_2; rw [if_neg c0, if_pos c1, own_n1]) rfl ⟨by omega, by omega⟩ ⟨by omega, by omega⟩ (Or.inl ⟨rfl, ?_⟩)
      have k := own_over (M := M) (N := N) (M' := (v0_50 a b c d e + 1) + v0_21 a b c d e * 0) r1 r2 d1 m1 m2 n1 (by omega) (Or.inl k1)
      rcases k with k | k
      · exact k
      · exact absurd k (by omega)
    · have c1' := (not_congr (own_lt _ _)).mp c1
      rw [i1] at c1'
      have k1 := own_over (M := 0) (N := 1) (M' := 0) r1' r2' d1' (by omega) (by omega) (by omega) (by omega) (Or.inr ⟨by omega, by omega⟩)
      rw [hM, hN] at k1
      have k1' : (0 + v0_21 a b c d e * 0).toInt = 0 ∧ M.toInt + 1 = N.toInt := by
        rcases k1 with k | k
        · exact absurd k (by omega)
        · exact k
      refine key 0 0 0 _ (by unfold v0_257; rw [if_neg c0]) (by unfold v0_273; rw [if_neg c0, if_neg c1]) (by unfold v0_242x f1_2; rw [if_neg c0, if_neg c1, own_n0]) rfl ⟨by omega, by omega⟩ ⟨by omega, by omega⟩ (Or.inr ⟨rfl, ?_⟩)
      have k := own_over (M := M) (N := N) (M' := 0 + v0_21 a b c d e * 0) r1 r2 d1 m1 m2 n1 (by omega) (Or.inr k1')
      rcases k with k | k
      · exact absurd k (by omega)
      · exact k
theorem own_plain_3 (a b c d e : Int32) : f0_3 a b c d e = 1 := by
  obtain ⟨r1, r2⟩ := own_R0 a b c d e
  obtain ⟨d1, d2⟩ := own_D0 a b c d e
  obtain ⟨r1', r2'⟩ := own_R1 a b c d e
  obtain ⟨d1', d2'⟩ := own_D1 a b c d e
  obtain ⟨r1'', r2''⟩ := own_R2 a b c d e
  obtain ⟨d1'', d2''⟩ := own_D2 a b c d e
  have hz := own_z
  have ho := own_o
  have i0 := own_inc r2 d1 d2
  have i1 := own_inc r2' d1' d2'
  have i2 := own_inc r2'' d1'' d2''
  obtain ⟨sa, sb, sc, sd, se, sf, sg⟩ := own_step (M := v0_60 a b c d e) (N := v0_32 a b c d e) r1' r2' d1' d2' (by omega) (by omega) (by omega)
  generalize hM : v0_50 a b c d e + v0_21 a b c d e * v0_60 a b c d e = M at *
  generalize hN : v0_21 a b c d e * v0_32 a b c d e = N at *
  have m1 : 0 ≤ M.toInt := by omega
  have m2 : M.toInt < N.toInt := by omega
  have n1 : N.toInt ≤ 256 := by omega
  obtain ⟨ta, tb, tc, td, te, tf, tg⟩ := own_step (M := M) (N := N) r1 r2 d1 d2 m1 m2 n1
  have hB : v0_233xx a b c d e = v0_41 a b c d e + v0_11 a b c d e * M := by unfold v0_233xx; rw [hM]
  have hT : v0_217xx a b c d e = v0_11 a b c d e * N := by unfold v0_217xx; rw [Int32.mul_assoc, hN]
  have key : ∀ g0 g1 g2 res M' : Int32, v0_257 a b c d e = g0 → v0_273 a b c d e = g1 → v0_289 a b c d e = g2 → v0_242xx a b c d e = res → g1 + v0_21 a b c d e * g2 = M' → (0 ≤ g0.toInt ∧ g0.toInt < (v0_11 a b c d e).toInt) → (0 ≤ g1.toInt ∧ g1.toInt < (v0_21 a b c d e).toInt) → (0 ≤ g2.toInt ∧ g2.toInt < (v0_32 a b c d e).toInt) → ((res = 1 ∧ (g0 + v0_11 a b c d e * M').toInt = (v0_41 a b c d e + v0_11 a b c d e * M).toInt + 1 ∧ (v0_41 a b c d e + v0_11 a b c d e * M).toInt + 1 ≠ (v0_11 a b c d e * N).toInt) ∨ (res = 0 ∧ (g0 + v0_11 a b c d e * M').toInt = 0 ∧ (v0_41 a b c d e + v0_11 a b c d e * M).toInt + 1 = (v0_11 a b c d e * N).toInt)) → f0_3 a b c d e = 1 := by
    intro g0 g1 g2 res M' e0 e1 e2 er eM hr hr' hr'' hk
    have q := own_fin (B := v0_233xx a b c d e) (T := v0_217xx a b c d e) (A := v0_393xx a b c d e) (res := res) (by rw [hB]; omega) (by rw [hB, hT]; omega) (by rw [hT]; omega) (by rw [hB, hT]; unfold v0_393xx; rw [e0, e1, e2, eM]; exact hk)
    have w1 : v0_326xxx a b c d e = 1 := by
      unfold v0_326xxx
      rw [e0, e1, e2, own_range hr.1 hr.2, own_range hr'.1 hr'.2, own_range hr''.1 hr''.2, if_neg own_10, if_neg own_10, if_neg own_10]
    have w2 : v0_377xx a b c d e = 1 := by unfold v0_377xx; rw [if_pos rfl, if_pos rfl, if_pos rfl]
    exact own_last w1 w2 (er.trans q.1) q.2
  by_cases c0 : (v0_41 a b c d e + 1) < v0_11 a b c d e
  · have c0' := (own_lt _ _).mp c0
    rw [i0] at c0'
    refine key (v0_41 a b c d e + 1) (v0_50 a b c d e) (v0_60 a b c d e) 1 M (by unfold v0_257; rw [if_pos c0]) (by unfold v0_273; rw [if_pos c0]) (by unfold v0_289; rw [if_pos c0]) (by unfold v0_242xx f1_3; rw [if_pos c0, own_n1]) hM ⟨by omega, by omega⟩ ⟨by omega, by omega⟩ ⟨by omega, by omega⟩ (Or.inl ⟨rfl, ?_⟩)
    exact own_up r1 r2 d1 m1 m2 n1 c0'
  · have c0' := (not_congr (own_lt _ _)).mp c0
    rw [i0] at c0'
    by_cases c1 : (v0_50 a b c d e + 1) < v0_21 a b c d e
    · have c1' := (own_lt _ _).mp c1
      rw [i1] at c1'
      have k1 := own_up (M := v0_60 a b c d e) (N := v0_32 a b c d e) r1' r2' d1' (by omega) (by omega) (by omega) c1'
      rw [hM, hN] at k1
      refine key 0 (v0_50 a b c d e + 1) (v0_60 a b c d e) 1 _ (by unfold v0_257; rw [if_neg c0]) (by unfold v0_273; rw [if_neg c0, if_pos c1]) (by unfold v0_289; rw [if_neg c0, if_pos c1]) (by unfold v0_242xx f1_3; rw [if_neg c0, if_pos c1, own_n1]) rfl ⟨by omega, by omega⟩ ⟨by omega, by omega⟩ ⟨by omega, by omega⟩ (Or.inl ⟨rfl, ?_⟩)
      have k := own_over (M := M) (N := N) (M' := (v0_50 a b c d e + 1) + v0_21 a b c d e * v0_60 a b c d e) r1 r2 d1 m1 m2 n1 (by omega) (Or.inl k1)
      rcases k with k | k
      · exact k
      · exact absurd k (by omega)
    · have c1' := (not_congr (own_lt _ _)).mp c1
      rw [i1] at c1'
      by_cases c2 : (v0_60 a b c d e + 1) < v0_32 a b c d e
      · have c2' := (own_lt _ _).mp c2
        rw [i2] at c2'
        have k1 := own_over (M := v0_60 a b c d e) (N := v0_32 a b c d e) (M' := v0_60 a b c d e + 1) r1' r2' d1' (by omega) (by omega) (by omega) (by omega) (Or.inl ⟨by omega, by omega⟩)
        rw [hM, hN] at k1
        have k1' : (0 + v0_21 a b c d e * (v0_60 a b c d e + 1)).toInt = M.toInt + 1 ∧ M.toInt + 1 ≠ N.toInt := by
          rcases k1 with k | k
          · exact k
          · exact absurd k (by omega)
        refine key 0 0 (v0_60 a b c d e + 1) 1 _ (by unfold v0_257; rw [if_neg c0]) (by unfold v0_273; rw [if_neg c0, if_neg c1]) (by unfold v0_289; rw [if_neg c0, if_neg c1, if_pos c2]) (by unfold v0_242xx f1_3; rw [if_neg c0, if_neg c1, if_pos c2, own_n1]) rfl ⟨by omega, by omega⟩ ⟨by omega, by omega⟩ ⟨by omega, by omega⟩ (Or.inl ⟨rfl, ?_⟩)
        have k := own_over (M := M) (N := N) (M' := 0 + v0_21 a b c d e * (v0_60 a b c d e + 1)) r1 r2 d1 m1 m2 n1 (by omega) (Or.inl k1')
        rcases k with k | k
        · exact k
        · exact absurd k (by omega)
      · have c2' := (not_congr (own_lt _ _)).mp c2
        rw [i2] at c2'
        have k1 := own_over (M := v0_60 a b c d e) (N := v0_32 a b c d e) (M' := 0) r1' r2' d1' (by omega) (by omega) (by omega) (by omega) (Or.inr ⟨by omega, by omega⟩)
        rw [hM, hN] at k1
        have k1' : (0 + v0_21 a b c d e * 0).toInt = 0 ∧ M.toInt + 1 = N.toInt := by
          rcases k1 with k | k
          · exact absurd k (by omega)
          · exact k
        refine key 0 0 0 0 _ (by unfold v0_257; rw [if_neg c0]) (by unfold v0_273; rw [if_neg c0, if_neg c1]) (by unfold v0_289; rw [if_neg c0, if_neg c1, if_neg c2]) (by unfold v0_242xx f1_3; rw [if_neg c0, if_neg c1, if_neg c2, own_n0]) rfl ⟨by omega, by omega⟩ ⟨by omega, by omega⟩ ⟨by omega, by omega⟩ (Or.inr ⟨rfl, ?_⟩)
        have k := own_over (M := M) (N := N) (M' := 0 + v0_21 a b c d e * 0) r1 r2 d1 m1 m2 n1 (by omega) (Or.inr k1')
        rcases k with k | k
        · exact absurd k (by omega)
        · exact k
theorem ef_0 (m : MethodId) (x0 : Int32) (x1 : Int32) (x2 : Int32) (x3 : Int32) (x4 : Int32) : entryFrame m #[(.int x0), (.int x1), (.int x2), (.int x3), (.int x4)] maxLocals = mkF m 0 #[.val (.int x0), .val (.int x1), .val (.int x2), .val (.int x3), .val (.int x4), .unset, .unset, .unset, .unset, .unset, .unset, .unset, .unset, .unset, .unset, .unset, .unset, .unset, .unset, .unset, .unset, .unset, .unset, .unset, .unset, .unset, .unset, .unset, .unset, .unset, .unset] [] := by first | (simp [entryFrame, mkF, argsToLocals, Value.category, maxLocals]; done) | rfl
def Q0 (Z : State) (p0 : Int32) (p1 : Int32) (p2 : Int32) (p3 : Int32) (p4 : Int32) (h0 : Heap) (n0 : Nat) (v : Option Value) (h : Heap) (L : List Loc) : Prop := v = some (.int 1) ∧ Fr n0 L
set_option maxRecDepth 65536 in
set_option maxHeartbeats 40000000 in
theorem rm0 (l : Launch) (Z : State) (aZ : Array Value) (hw : ∀ d ∈ tables_1, d.before aZ Z = true) (ws : List Jvm.Cond) (p0 : Int32) (p1 : Int32) (p2 : Int32) (p3 : Int32) (p4 : Int32) (h0 : Heap) (n0 : Nat) (Z0 : n0 ≤ h0.size) :
    MetFree l x (head1 (Jvm.Cond.code x code maxLocals ret :: ws) room_1) (fun a U => a = #[(.int p0), (.int p1), (.int p2), (.int p3), (.int p4)] ∧ Z.Warmed39 U.vm ∧ U.heap = h0) (fun _ _ _ _ _ => True) (fun _ U o U' => ∃ v L, o = .returned v ∧ Q0 Z p0 p1 p2 p3 p4 h0 n0 v U'.heap L ∧ FrameEnd U o U' L room_1.cells room_1.slots) := by
  refine MetFree.of_bodySF (plainFor_of_name pn_com_example_assentor_assentor_check_OdometerAdvancePinLaw) hisR ?_
  intro p e s m args below meth c s₁ Bd hml0 hP hK
  obtain ⟨rfl, hZ, hh⟩ := hP
  have hx := Bd.exec
  have hby := Bd.bytes
  have hlk : meth.locks = false := BodyLoose.notSynchronized Bd
  have hml : c.maxLocals = 31 := hml0
  have hown : s.vm.findClass "com/example/assentor/assentor/check/OdometerAdvancePinLaw" = some m.cls := findClass_of_methodNamed Bd.named
  have hnm := (name_of_methodNamed Bd.named Bd.method).1
  have X0 : Stand p l e room_1 s m #[(.int p0), (.int p1), (.int p2), (.int p3), (.int p4)] below meth c s₁ [] 0 0 := Stand.of_body Bd
  have e0 : s₁.heap = h0 := by rw [← hh, Bd.state]; rfl
  have N0 := Fr.nil n0
  show OEnd p e below s s₁ (entryFrame m #[(.int p0), (.int p1), (.int p2), (.int p3), (.int p4)] maxLocals) (Q0 Z p0 p1 p2 p3 p4 h0 n0) room_1.cells room_1.slots
  refine OEnd.go (g' := (mkF m 0 (la0_87 p0 p1 p2 p3 p4) [])) (fun _ k => castTop (ef_0 m p0 p1 p2 p3 p4) k) ?_
  refine OEnd.go (T' := s₁) (g' := (mkF m 62 (la0_6 p0 p1 p2 p3 p4) [])) (fun t k => ?_) ?_
  · show Steps p.tables e below (s₁.setTop (mkF m 0 (la0_87 p0 p1 p2 p3 p4) [])) t
    refine XS.iloadN X0.here hx rfl (hb hby at_0) rfl ?_
    show Steps p.tables e below (s₁.setTop (mkF m 1 (la0_87 p0 p1 p2 p3 p4) [(.int p0)])) t
    refine XS.iconst X0.here hx rfl (hb hby at_1) ?_
    show Steps p.tables e below (s₁.setTop (mkF m 2 (la0_87 p0 p1 p2 p3 p4) [(.int (3 : Int32)), (.int p0)])) t
    refine XS.iand X0.here hx rfl (hb hby at_2) rfl ?_
    show Steps p.tables e below (s₁.setTop (mkF m 3 (la0_87 p0 p1 p2 p3 p4) [(.int (p0 &&& (3 : Int32)))])) t
    refine XS.istore X0.here hx rfl (hb hby at_3) rfl (l' := (la0_0 p0 p1 p2 p3 p4)) rfl ?_
    show Steps p.tables e below (s₁.setTop (mkF m 5 (la0_0 p0 p1 p2 p3 p4) [])) t
    refine XS.iloadN X0.here hx rfl (hb hby at_5) rfl ?_
    show Steps p.tables e below (s₁.setTop (mkF m 6 (la0_0 p0 p1 p2 p3 p4) [(.int p1)])) t
    refine XS.bipush X0.here hx rfl (hb hby at_6) ?_
    show Steps p.tables e below (s₁.setTop (mkF m 8 (la0_0 p0 p1 p2 p3 p4) [(.int (15 : Int32)), (.int p1)])) t
    refine XS.iand X0.here hx rfl (hb hby at_8) rfl ?_
    show Steps p.tables e below (s₁.setTop (mkF m 9 (la0_0 p0 p1 p2 p3 p4) [(.int (p1 &&& (15 : Int32)))])) t
    refine XS.iconst X0.here hx rfl (hb hby at_9) ?_
    show Steps p.tables e below (s₁.setTop (mkF m 10 (la0_0 p0 p1 p2 p3 p4) [(.int (1 : Int32)), (.int (p1 &&& (15 : Int32)))])) t
    refine XS.iadd X0.here hx rfl (hb hby at_10) rfl ?_
    show Steps p.tables e below (s₁.setTop (mkF m 11 (la0_0 p0 p1 p2 p3 p4) [(.int ((p1 &&& (15 : Int32)) + (1 : Int32)))])) t
    refine XS.istore X0.here hx rfl (hb hby at_11) rfl (l' := (la0_1 p0 p1 p2 p3 p4)) rfl ?_
    show Steps p.tables e below (s₁.setTop (mkF m 13 (la0_1 p0 p1 p2 p3 p4) [])) t
    refine XS.iloadN X0.here hx rfl (hb hby at_13) rfl ?_
    show Steps p.tables e below (s₁.setTop (mkF m 14 (la0_1 p0 p1 p2 p3 p4) [(.int p1)])) t
    refine XS.iconst X0.here hx rfl (hb hby at_14) ?_
    show Steps p.tables e below (s₁.setTop (mkF m 15 (la0_1 p0 p1 p2 p3 p4) [(.int (4 : Int32)), (.int p1)])) t
    refine XS.iushr X0.here hx rfl (hb hby at_15) rfl ?_
    show Steps p.tables e below (s₁.setTop (mkF m 16 (la0_1 p0 p1 p2 p3 p4) [(.int ((p1.toUInt32 >>> ((4 : Int32) &&& 31).toUInt32).toInt32))])) t
    refine XS.bipush X0.here hx rfl (hb hby at_16) ?_
    show Steps p.tables e below (s₁.setTop (mkF m 18 (la0_1 p0 p1 p2 p3 p4) [(.int (15 : Int32)), (.int ((p1.toUInt32 >>> ((4 : Int32) &&& 31).toUInt32).toInt32))])) t
    refine XS.iand X0.here hx rfl (hb hby at_18) rfl ?_
    show Steps p.tables e below (s₁.setTop (mkF m 19 (la0_1 p0 p1 p2 p3 p4) [(.int (((p1.toUInt32 >>> ((4 : Int32) &&& 31).toUInt32).toInt32) &&& (15 : Int32)))])) t
    refine XS.iconst X0.here hx rfl (hb hby at_19) ?_
    show Steps p.tables e below (s₁.setTop (mkF m 20 (la0_1 p0 p1 p2 p3 p4) [(.int (1 : Int32)), (.int (((p1.toUInt32 >>> ((4 : Int32) &&& 31).toUInt32).toInt32) &&& (15 : Int32)))])) t
    refine XS.iadd X0.here hx rfl (hb hby at_20) rfl ?_
    show Steps p.tables e below (s₁.setTop (mkF m 21 (la0_1 p0 p1 p2 p3 p4) [(.int ((((p1.toUInt32 >>> ((4 : Int32) &&& 31).toUInt32).toInt32) &&& (15 : Int32)) + (1 : Int32)))])) t
    refine XS.istore X0.here hx rfl (hb hby at_21) rfl (l' := (la0_2 p0 p1 p2 p3 p4)) rfl ?_
    show Steps p.tables e below (s₁.setTop (mkF m 23 (la0_2 p0 p1 p2 p3 p4) [])) t
    refine XS.iloadN X0.here hx rfl (hb hby at_23) rfl ?_
    show Steps p.tables e below (s₁.setTop (mkF m 24 (la0_2 p0 p1 p2 p3 p4) [(.int p1)])) t
    refine XS.bipush X0.here hx rfl (hb hby at_24) ?_
    show Steps p.tables e below (s₁.setTop (mkF m 26 (la0_2 p0 p1 p2 p3 p4) [(.int (8 : Int32)), (.int p1)])) t
    refine XS.iushr X0.here hx rfl (hb hby at_26) rfl ?_
    show Steps p.tables e below (s₁.setTop (mkF m 27 (la0_2 p0 p1 p2 p3 p4) [(.int ((p1.toUInt32 >>> ((8 : Int32) &&& 31).toUInt32).toInt32))])) t
    refine XS.bipush X0.here hx rfl (hb hby at_27) ?_
    show Steps p.tables e below (s₁.setTop (mkF m 29 (la0_2 p0 p1 p2 p3 p4) [(.int (15 : Int32)), (.int ((p1.toUInt32 >>> ((8 : Int32) &&& 31).toUInt32).toInt32))])) t
    refine XS.iand X0.here hx rfl (hb hby at_29) rfl ?_
    show Steps p.tables e below (s₁.setTop (mkF m 30 (la0_2 p0 p1 p2 p3 p4) [(.int (((p1.toUInt32 >>> ((8 : Int32) &&& 31).toUInt32).toInt32) &&& (15 : Int32)))])) t
    refine XS.iconst X0.here hx rfl (hb hby at_30) ?_
    show Steps p.tables e below (s₁.setTop (mkF m 31 (la0_2 p0 p1 p2 p3 p4) [(.int (1 : Int32)), (.int (((p1.toUInt32 >>> ((8 : Int32) &&& 31).toUInt32).toInt32) &&& (15 : Int32)))])) t
    refine XS.iadd X0.here hx rfl (hb hby at_31) rfl ?_
    show Steps p.tables e below (s₁.setTop (mkF m 32 (la0_2 p0 p1 p2 p3 p4) [(.int ((((p1.toUInt32 >>> ((8 : Int32) &&& 31).toUInt32).toInt32) &&& (15 : Int32)) + (1 : Int32)))])) t
    refine XS.istore X0.here hx rfl (hb hby at_32) rfl (l' := (la0_3 p0 p1 p2 p3 p4)) rfl ?_
    show Steps p.tables e below (s₁.setTop (mkF m 34 (la0_3 p0 p1 p2 p3 p4) [])) t
    refine XS.iloadN X0.here hx rfl (hb hby at_34) rfl ?_
    show Steps p.tables e below (s₁.setTop (mkF m 35 (la0_3 p0 p1 p2 p3 p4) [(.int p2)])) t
    refine X0.ldcInt hx hown (mvT hZ (hw _ (List.mem_of_getElem? (i := 0) rfl))) (g := (mkF m 35 (la0_3 p0 p1 p2 p3 p4) [(.int p2)])) rfl (hb hby at_35) _ ?_
    show Steps p.tables e below (s₁.setTop (mkF m 37 (la0_3 p0 p1 p2 p3 p4) [(.int (2147483647 : Int32)), (.int p2)])) t
    refine XS.iand X0.here hx rfl (hb hby at_37) rfl ?_
    show Steps p.tables e below (s₁.setTop (mkF m 38 (la0_3 p0 p1 p2 p3 p4) [(.int (p2 &&& (2147483647 : Int32)))])) t
    refine XS.iload X0.here hx rfl (hb hby at_38) rfl ?_
    show Steps p.tables e below (s₁.setTop (mkF m 40 (la0_3 p0 p1 p2 p3 p4) [(.int (v0_11 p0 p1 p2 p3 p4)), (.int (p2 &&& (2147483647 : Int32)))])) t
    refine XS.irem X0.here hx rfl (hb hby at_40) rfl (own_nz0 p0 p1 p2 p3 p4) ?_
    show Steps p.tables e below (s₁.setTop (mkF m 41 (la0_3 p0 p1 p2 p3 p4) [(.int ((p2 &&& (2147483647 : Int32)) - ((p2 &&& (2147483647 : Int32)) / (v0_11 p0 p1 p2 p3 p4)) * (v0_11 p0 p1 p2 p3 p4)))])) t
    refine XS.istore X0.here hx rfl (hb hby at_41) rfl (l' := (la0_4 p0 p1 p2 p3 p4)) rfl ?_
    show Steps p.tables e below (s₁.setTop (mkF m 43 (la0_4 p0 p1 p2 p3 p4) [])) t
    refine XS.iloadN X0.here hx rfl (hb hby at_43) rfl ?_
    show Steps p.tables e below (s₁.setTop (mkF m 44 (la0_4 p0 p1 p2 p3 p4) [(.int p3)])) t
    refine X0.ldcInt hx hown (mvT hZ (hw _ (List.mem_of_getElem? (i := 0) rfl))) (g := (mkF m 44 (la0_4 p0 p1 p2 p3 p4) [(.int p3)])) rfl (hb hby at_44) _ ?_
    show Steps p.tables e below (s₁.setTop (mkF m 46 (la0_4 p0 p1 p2 p3 p4) [(.int (2147483647 : Int32)), (.int p3)])) t
    refine XS.iand X0.here hx rfl (hb hby at_46) rfl ?_
    show Steps p.tables e below (s₁.setTop (mkF m 47 (la0_4 p0 p1 p2 p3 p4) [(.int (p3 &&& (2147483647 : Int32)))])) t
    refine XS.iload X0.here hx rfl (hb hby at_47) rfl ?_
    show Steps p.tables e below (s₁.setTop (mkF m 49 (la0_4 p0 p1 p2 p3 p4) [(.int (v0_21 p0 p1 p2 p3 p4)), (.int (p3 &&& (2147483647 : Int32)))])) t
    refine XS.irem X0.here hx rfl (hb hby at_49) rfl (own_nz1 p0 p1 p2 p3 p4) ?_
    show Steps p.tables e below (s₁.setTop (mkF m 50 (la0_4 p0 p1 p2 p3 p4) [(.int ((p3 &&& (2147483647 : Int32)) - ((p3 &&& (2147483647 : Int32)) / (v0_21 p0 p1 p2 p3 p4)) * (v0_21 p0 p1 p2 p3 p4)))])) t
    refine XS.istore X0.here hx rfl (hb hby at_50) rfl (l' := (la0_5 p0 p1 p2 p3 p4)) rfl ?_
    show Steps p.tables e below (s₁.setTop (mkF m 52 (la0_5 p0 p1 p2 p3 p4) [])) t
    refine XS.iload X0.here hx rfl (hb hby at_52) rfl ?_
    show Steps p.tables e below (s₁.setTop (mkF m 54 (la0_5 p0 p1 p2 p3 p4) [(.int p4)])) t
    refine X0.ldcInt hx hown (mvT hZ (hw _ (List.mem_of_getElem? (i := 0) rfl))) (g := (mkF m 54 (la0_5 p0 p1 p2 p3 p4) [(.int p4)])) rfl (hb hby at_54) _ ?_
    show Steps p.tables e below (s₁.setTop (mkF m 56 (la0_5 p0 p1 p2 p3 p4) [(.int (2147483647 : Int32)), (.int p4)])) t
    refine XS.iand X0.here hx rfl (hb hby at_56) rfl ?_
    show Steps p.tables e below (s₁.setTop (mkF m 57 (la0_5 p0 p1 p2 p3 p4) [(.int (p4 &&& (2147483647 : Int32)))])) t
    refine XS.iload X0.here hx rfl (hb hby at_57) rfl ?_
    show Steps p.tables e below (s₁.setTop (mkF m 59 (la0_5 p0 p1 p2 p3 p4) [(.int (v0_32 p0 p1 p2 p3 p4)), (.int (p4 &&& (2147483647 : Int32)))])) t
    refine XS.irem X0.here hx rfl (hb hby at_59) rfl (own_nz2 p0 p1 p2 p3 p4) ?_
    show Steps p.tables e below (s₁.setTop (mkF m 60 (la0_5 p0 p1 p2 p3 p4) [(.int ((p4 &&& (2147483647 : Int32)) - ((p4 &&& (2147483647 : Int32)) / (v0_32 p0 p1 p2 p3 p4)) * (v0_32 p0 p1 p2 p3 p4)))])) t
    refine XS.istore X0.here hx rfl (hb hby at_60) rfl (l' := (la0_6 p0 p1 p2 p3 p4)) rfl ?_
    show Steps p.tables e below (s₁.setTop (mkF m 62 (la0_6 p0 p1 p2 p3 p4) [])) t
    exact k
  rcases (own_four p0) with hs1 | hs1 | hs1 | hs1
  · skip
    refine OEnd.go (T' := s₁) (g' := (mkF m 62 (la0_7 p0 p1 p2 p3 p4) [])) (fun t k => (own_k (f := fun (z : Int32) => mkF m 62 #[.val (.int p0), .val (.int p1), .val (.int p2), .val (.int p3), .val (.int p4), .val (.int z), .val (.int (v0_11 p0 p1 p2 p3 p4)), .val (.int (v0_21 p0 p1 p2 p3 p4)), .val (.int (v0_32 p0 p1 p2 p3 p4)), .val (.int (v0_41 p0 p1 p2 p3 p4)), .val (.int (v0_50 p0 p1 p2 p3 p4)), .val (.int (v0_60 p0 p1 p2 p3 p4)), .unset, .unset, .unset, .unset, .unset, .unset, .unset, .unset, .unset, .unset, .unset, .unset, .unset, .unset, .unset, .unset, .unset, .unset, .unset] []) hs1.symm k)) ?_
    refine OEnd.go (T' := s₁) (g' := (mkF m 64 (la0_7 p0 p1 p2 p3 p4) [(.int (0 : Int32))])) (fun t k => ?_) ?_
    · show Steps p.tables e below (s₁.setTop (mkF m 62 (la0_7 p0 p1 p2 p3 p4) [])) t
      refine XS.iload X0.here hx rfl (hb hby at_62) rfl ?_
      show Steps p.tables e below (s₁.setTop (mkF m 64 (la0_7 p0 p1 p2 p3 p4) [(.int (0 : Int32))])) t
      exact k
    obtain ⟨T2, h2, k2, X2, e2, E2, A2, st2⟩ := newP X0 hx hZ (hw _ (List.mem_of_getElem? (i := 1) rfl)) e0 (g := (mkF m 64 (la0_7 p0 p1 p2 p3 p4) [(.int (0 : Int32))])) rfl (hb hby at_64) rfl (by decide) (cap := 0) (by decide) (by decide) (by decide) (by decide)
    obtain ⟨b0_64, g2⟩ : ∃ z, z = h0.size := ⟨_, rfl⟩
    rw [← g2] at A2 st2
    have gle_b0_64 : n0 ≤ b0_64 := Nat.le_trans Z0 (Nat.le_of_eq g2.symm)
    have Z2 : n0 ≤ h2.size := Nat.le_trans Z0 E2.1
    have V2 : OArr Z h2 b0_64 .int (0 : Int32) [] (.int (0 : Int32)) := ⟨_, Arv.new A2 (by decide)⟩
    refine OEnd.go (g' := (mkF m 66 (la0_7 p0 p1 p2 p3 p4) [(.ref b0_64)])) st2 ?_
    refine OEnd.go (T' := T2) (g' := (mkF m 70 (la0_8 p0 p1 p2 p3 p4 b0_64) [(.int (0 : Int32))])) (fun t k => ?_) ?_
    · show Steps p.tables e below (T2.setTop (mkF m 66 (la0_7 p0 p1 p2 p3 p4) [(.ref b0_64)])) t
      refine XS.astore X2.here hx rfl (hb hby at_66) rfl rfl (l' := (la0_8 p0 p1 p2 p3 p4 b0_64)) rfl ?_
      show Steps p.tables e below (T2.setTop (mkF m 68 (la0_8 p0 p1 p2 p3 p4 b0_64) [])) t
      refine XS.iload X2.here hx rfl (hb hby at_68) rfl ?_
      show Steps p.tables e below (T2.setTop (mkF m 70 (la0_8 p0 p1 p2 p3 p4 b0_64) [(.int (0 : Int32))])) t
      exact k
    obtain ⟨T3, h3, k3, X3, e3, E3, A3, st3⟩ := newP X2 hx hZ (hw _ (List.mem_of_getElem? (i := 1) rfl)) e2 (g := (mkF m 70 (la0_8 p0 p1 p2 p3 p4 b0_64) [(.int (0 : Int32))])) rfl (hb hby at_70) rfl (by decide) (cap := 0) (by decide) (by decide) (by decide) (by decide)
    obtain ⟨b0_70, g3⟩ : ∃ z, z = h2.size := ⟨_, rfl⟩
    rw [← g3] at A3 st3
    have gle_b0_70 : n0 ≤ b0_70 := Nat.le_trans Z2 (Nat.le_of_eq g3.symm)
    have ne_b0_64_b0_70 : b0_64 ≠ b0_70 := Nat.ne_of_lt (Nat.lt_of_lt_of_le V2.lt (Nat.le_of_eq g3.symm))
    have fc4 : OArr Z h3 b0_64 .int (0 : Int32) [] (.int (0 : Int32)) := (V2.ext E3)
    have Z3 : n0 ≤ h3.size := Nat.le_trans Z2 E3.1
    have V3 : OArr Z h3 b0_70 .int (0 : Int32) [] (.int (0 : Int32)) := ⟨_, Arv.new A3 (by decide)⟩
    refine OEnd.go (g' := (mkF m 72 (la0_8 p0 p1 p2 p3 p4 b0_64) [(.ref b0_70)])) st3 ?_
    refine OEnd.go (T' := T3) (g' := (mkF m 239 (la0_17 p0 p1 p2 p3 p4 b0_64 b0_70) [(.ref b0_64), (.ref b0_70)])) (fun t k => ?_) ?_
    · show Steps p.tables e below (T3.setTop (mkF m 72 (la0_8 p0 p1 p2 p3 p4 b0_64) [(.ref b0_70)])) t
      refine XS.astore X3.here hx rfl (hb hby at_72) rfl rfl (l' := (la0_9 p0 p1 p2 p3 p4 b0_64 b0_70)) rfl ?_
      show Steps p.tables e below (T3.setTop (mkF m 74 (la0_9 p0 p1 p2 p3 p4 b0_64 b0_70) [])) t
      refine XS.iload X3.here hx rfl (hb hby at_74) rfl ?_
      show Steps p.tables e below (T3.setTop (mkF m 76 (la0_9 p0 p1 p2 p3 p4 b0_64 b0_70) [(.int (0 : Int32))])) t
      refine XS.ifYes X3.here hx rfl (pc0 := 76) (pc' := 91) rfl (hb hby at_76) rfl ((if0 _ _).trans (flt ((by decide))).2.2.2) (by decide) (by decide) ?_
      show Steps p.tables e below (T3.setTop (mkF m 91 (la0_9 p0 p1 p2 p3 p4 b0_64 b0_70) [])) t
      refine XS.iload X3.here hx rfl (hb hby at_91) rfl ?_
      show Steps p.tables e below (T3.setTop (mkF m 93 (la0_9 p0 p1 p2 p3 p4 b0_64 b0_70) [(.int (0 : Int32))])) t
      refine XS.iconst X3.here hx rfl (hb hby at_93) ?_
      show Steps p.tables e below (T3.setTop (mkF m 94 (la0_9 p0 p1 p2 p3 p4 b0_64 b0_70) [(.int (1 : Int32)), (.int (0 : Int32))])) t
      refine XS.icmpYes X3.here hx rfl (pc0 := 94) (pc' := 109) rfl (hb hby at_94) rfl (flt ((by decide))).2.2.2 (by decide) (by decide) ?_
      show Steps p.tables e below (T3.setTop (mkF m 109 (la0_9 p0 p1 p2 p3 p4 b0_64 b0_70) [])) t
      refine XS.iload X3.here hx rfl (hb hby at_109) rfl ?_
      show Steps p.tables e below (T3.setTop (mkF m 111 (la0_9 p0 p1 p2 p3 p4 b0_64 b0_70) [(.int (0 : Int32))])) t
      refine XS.iconst X3.here hx rfl (hb hby at_111) ?_
      show Steps p.tables e below (T3.setTop (mkF m 112 (la0_9 p0 p1 p2 p3 p4 b0_64 b0_70) [(.int (2 : Int32)), (.int (0 : Int32))])) t
      refine XS.icmpYes X3.here hx rfl (pc0 := 112) (pc' := 127) rfl (hb hby at_112) rfl (flt ((by decide))).2.2.2 (by decide) (by decide) ?_
      show Steps p.tables e below (T3.setTop (mkF m 127 (la0_9 p0 p1 p2 p3 p4 b0_64 b0_70) [])) t
      refine XS.iload X3.here hx rfl (hb hby at_127) rfl ?_
      show Steps p.tables e below (T3.setTop (mkF m 129 (la0_9 p0 p1 p2 p3 p4 b0_64 b0_70) [(.int (0 : Int32))])) t
      refine XS.ifYes X3.here hx rfl (pc0 := 129) (pc' := 137) rfl (hb hby at_129) rfl ((if0 _ _).trans (flt ((by decide))).2.2.2) (by decide) (by decide) ?_
      show Steps p.tables e below (T3.setTop (mkF m 137 (la0_9 p0 p1 p2 p3 p4 b0_64 b0_70) [])) t
      refine XS.iconst X3.here hx rfl (hb hby at_137) ?_
      show Steps p.tables e below (T3.setTop (mkF m 138 (la0_9 p0 p1 p2 p3 p4 b0_64 b0_70) [(.int (1 : Int32))])) t
      refine XS.istore X3.here hx rfl (hb hby at_138) rfl (l' := (la0_10 p0 p1 p2 p3 p4 b0_64 b0_70)) rfl ?_
      show Steps p.tables e below (T3.setTop (mkF m 140 (la0_10 p0 p1 p2 p3 p4 b0_64 b0_70) [])) t
      refine XS.iload X3.here hx rfl (hb hby at_140) rfl ?_
      show Steps p.tables e below (T3.setTop (mkF m 142 (la0_10 p0 p1 p2 p3 p4 b0_64 b0_70) [(.int (0 : Int32))])) t
      refine XS.iconst X3.here hx rfl (hb hby at_142) ?_
      show Steps p.tables e below (T3.setTop (mkF m 143 (la0_10 p0 p1 p2 p3 p4 b0_64 b0_70) [(.int (1 : Int32)), (.int (0 : Int32))])) t
      refine XS.icmpYes X3.here hx rfl (pc0 := 143) (pc' := 151) rfl (hb hby at_143) rfl (flt ((by decide))).2.2.2 (by decide) (by decide) ?_
      show Steps p.tables e below (T3.setTop (mkF m 151 (la0_10 p0 p1 p2 p3 p4 b0_64 b0_70) [])) t
      refine XS.iconst X3.here hx rfl (hb hby at_151) ?_
      show Steps p.tables e below (T3.setTop (mkF m 152 (la0_10 p0 p1 p2 p3 p4 b0_64 b0_70) [(.int (1 : Int32))])) t
      refine XS.istore X3.here hx rfl (hb hby at_152) rfl (l' := (la0_11 p0 p1 p2 p3 p4 b0_64 b0_70)) rfl ?_
      show Steps p.tables e below (T3.setTop (mkF m 154 (la0_11 p0 p1 p2 p3 p4 b0_64 b0_70) [])) t
      refine XS.iload X3.here hx rfl (hb hby at_154) rfl ?_
      show Steps p.tables e below (T3.setTop (mkF m 156 (la0_11 p0 p1 p2 p3 p4 b0_64 b0_70) [(.int (0 : Int32))])) t
      refine XS.iconst X3.here hx rfl (hb hby at_156) ?_
      show Steps p.tables e below (T3.setTop (mkF m 157 (la0_11 p0 p1 p2 p3 p4 b0_64 b0_70) [(.int (2 : Int32)), (.int (0 : Int32))])) t
      refine XS.icmpYes X3.here hx rfl (pc0 := 157) (pc' := 165) rfl (hb hby at_157) rfl (flt ((by decide))).2.2.2 (by decide) (by decide) ?_
      show Steps p.tables e below (T3.setTop (mkF m 165 (la0_11 p0 p1 p2 p3 p4 b0_64 b0_70) [])) t
      refine XS.iconst X3.here hx rfl (hb hby at_165) ?_
      show Steps p.tables e below (T3.setTop (mkF m 166 (la0_11 p0 p1 p2 p3 p4 b0_64 b0_70) [(.int (1 : Int32))])) t
      refine XS.istore X3.here hx rfl (hb hby at_166) rfl (l' := (la0_12 p0 p1 p2 p3 p4 b0_64 b0_70)) rfl ?_
      show Steps p.tables e below (T3.setTop (mkF m 168 (la0_12 p0 p1 p2 p3 p4 b0_64 b0_70) [])) t
      refine XS.iload X3.here hx rfl (hb hby at_168) rfl ?_
      show Steps p.tables e below (T3.setTop (mkF m 170 (la0_12 p0 p1 p2 p3 p4 b0_64 b0_70) [(.int (0 : Int32))])) t
      refine XS.ifYes X3.here hx rfl (pc0 := 170) (pc' := 178) rfl (hb hby at_170) rfl ((if0 _ _).trans (flt ((by decide))).2.2.2) (by decide) (by decide) ?_
      show Steps p.tables e below (T3.setTop (mkF m 178 (la0_12 p0 p1 p2 p3 p4 b0_64 b0_70) [])) t
      refine XS.iconst X3.here hx rfl (hb hby at_178) ?_
      show Steps p.tables e below (T3.setTop (mkF m 179 (la0_12 p0 p1 p2 p3 p4 b0_64 b0_70) [(.int (0 : Int32))])) t
      refine XS.istore X3.here hx rfl (hb hby at_179) rfl (l' := (la0_13 p0 p1 p2 p3 p4 b0_64 b0_70)) rfl ?_
      show Steps p.tables e below (T3.setTop (mkF m 181 (la0_13 p0 p1 p2 p3 p4 b0_64 b0_70) [])) t
      refine XS.iload X3.here hx rfl (hb hby at_181) rfl ?_
      show Steps p.tables e below (T3.setTop (mkF m 183 (la0_13 p0 p1 p2 p3 p4 b0_64 b0_70) [(.int (0 : Int32))])) t
      refine XS.iconst X3.here hx rfl (hb hby at_183) ?_
      show Steps p.tables e below (T3.setTop (mkF m 184 (la0_13 p0 p1 p2 p3 p4 b0_64 b0_70) [(.int (1 : Int32)), (.int (0 : Int32))])) t
      refine XS.icmpYes X3.here hx rfl (pc0 := 184) (pc' := 192) rfl (hb hby at_184) rfl (flt ((by decide))).2.2.2 (by decide) (by decide) ?_
      show Steps p.tables e below (T3.setTop (mkF m 192 (la0_13 p0 p1 p2 p3 p4 b0_64 b0_70) [])) t
      refine XS.iconst X3.here hx rfl (hb hby at_192) ?_
      show Steps p.tables e below (T3.setTop (mkF m 193 (la0_13 p0 p1 p2 p3 p4 b0_64 b0_70) [(.int (0 : Int32))])) t
      refine XS.istore X3.here hx rfl (hb hby at_193) rfl (l' := (la0_14 p0 p1 p2 p3 p4 b0_64 b0_70)) rfl ?_
      show Steps p.tables e below (T3.setTop (mkF m 195 (la0_14 p0 p1 p2 p3 p4 b0_64 b0_70) [])) t
      refine XS.iload X3.here hx rfl (hb hby at_195) rfl ?_
      show Steps p.tables e below (T3.setTop (mkF m 197 (la0_14 p0 p1 p2 p3 p4 b0_64 b0_70) [(.int (0 : Int32))])) t
      refine XS.iconst X3.here hx rfl (hb hby at_197) ?_
      show Steps p.tables e below (T3.setTop (mkF m 198 (la0_14 p0 p1 p2 p3 p4 b0_64 b0_70) [(.int (2 : Int32)), (.int (0 : Int32))])) t
      refine XS.icmpYes X3.here hx rfl (pc0 := 198) (pc' := 206) rfl (hb hby at_198) rfl (flt ((by decide))).2.2.2 (by decide) (by decide) ?_
      show Steps p.tables e below (T3.setTop (mkF m 206 (la0_14 p0 p1 p2 p3 p4 b0_64 b0_70) [])) t
      refine XS.iconst X3.here hx rfl (hb hby at_206) ?_
      show Steps p.tables e below (T3.setTop (mkF m 207 (la0_14 p0 p1 p2 p3 p4 b0_64 b0_70) [(.int (0 : Int32))])) t
      refine XS.istore X3.here hx rfl (hb hby at_207) rfl (l' := (la0_15 p0 p1 p2 p3 p4 b0_64 b0_70)) rfl ?_
      show Steps p.tables e below (T3.setTop (mkF m 209 (la0_15 p0 p1 p2 p3 p4 b0_64 b0_70) [])) t
      refine XS.iload X3.here hx rfl (hb hby at_209) rfl ?_
      show Steps p.tables e below (T3.setTop (mkF m 211 (la0_15 p0 p1 p2 p3 p4 b0_64 b0_70) [(.int (1 : Int32))])) t
      refine XS.iload X3.here hx rfl (hb hby at_211) rfl ?_
      show Steps p.tables e below (T3.setTop (mkF m 213 (la0_15 p0 p1 p2 p3 p4 b0_64 b0_70) [(.int (1 : Int32)), (.int (1 : Int32))])) t
      refine XS.imul X3.here hx rfl (hb hby at_213) rfl ?_
      show Steps p.tables e below (T3.setTop (mkF m 214 (la0_15 p0 p1 p2 p3 p4 b0_64 b0_70) [(.int (1 : Int32))])) t
      refine XS.iload X3.here hx rfl (hb hby at_214) rfl ?_
      show Steps p.tables e below (T3.setTop (mkF m 216 (la0_15 p0 p1 p2 p3 p4 b0_64 b0_70) [(.int (1 : Int32)), (.int (1 : Int32))])) t
      refine XS.imul X3.here hx rfl (hb hby at_216) rfl ?_
      show Steps p.tables e below (T3.setTop (mkF m 217 (la0_15 p0 p1 p2 p3 p4 b0_64 b0_70) [(.int (1 : Int32))])) t
      refine XS.istore X3.here hx rfl (hb hby at_217) rfl (l' := (la0_16 p0 p1 p2 p3 p4 b0_64 b0_70)) rfl ?_
      show Steps p.tables e below (T3.setTop (mkF m 219 (la0_16 p0 p1 p2 p3 p4 b0_64 b0_70) [])) t
      refine XS.iload X3.here hx rfl (hb hby at_219) rfl ?_
      show Steps p.tables e below (T3.setTop (mkF m 221 (la0_16 p0 p1 p2 p3 p4 b0_64 b0_70) [(.int (0 : Int32))])) t
      refine XS.iload X3.here hx rfl (hb hby at_221) rfl ?_
      show Steps p.tables e below (T3.setTop (mkF m 223 (la0_16 p0 p1 p2 p3 p4 b0_64 b0_70) [(.int (1 : Int32)), (.int (0 : Int32))])) t
      refine XS.iload X3.here hx rfl (hb hby at_223) rfl ?_
      show Steps p.tables e below (T3.setTop (mkF m 225 (la0_16 p0 p1 p2 p3 p4 b0_64 b0_70) [(.int (0 : Int32)), (.int (1 : Int32)), (.int (0 : Int32))])) t
      refine XS.iload X3.here hx rfl (hb hby at_225) rfl ?_
      show Steps p.tables e below (T3.setTop (mkF m 227 (la0_16 p0 p1 p2 p3 p4 b0_64 b0_70) [(.int (1 : Int32)), (.int (0 : Int32)), (.int (1 : Int32)), (.int (0 : Int32))])) t
      refine XS.iload X3.here hx rfl (hb hby at_227) rfl ?_
      show Steps p.tables e below (T3.setTop (mkF m 229 (la0_16 p0 p1 p2 p3 p4 b0_64 b0_70) [(.int (0 : Int32)), (.int (1 : Int32)), (.int (0 : Int32)), (.int (1 : Int32)), (.int (0 : Int32))])) t
      refine XS.imul X3.here hx rfl (hb hby at_229) rfl ?_
      show Steps p.tables e below (T3.setTop (mkF m 230 (la0_16 p0 p1 p2 p3 p4 b0_64 b0_70) [(.int (0 : Int32)), (.int (0 : Int32)), (.int (1 : Int32)), (.int (0 : Int32))])) t
      refine XS.iadd X3.here hx rfl (hb hby at_230) rfl ?_
      show Steps p.tables e below (T3.setTop (mkF m 231 (la0_16 p0 p1 p2 p3 p4 b0_64 b0_70) [(.int (0 : Int32)), (.int (1 : Int32)), (.int (0 : Int32))])) t
      refine XS.imul X3.here hx rfl (hb hby at_231) rfl ?_
      show Steps p.tables e below (T3.setTop (mkF m 232 (la0_16 p0 p1 p2 p3 p4 b0_64 b0_70) [(.int (0 : Int32)), (.int (0 : Int32))])) t
      refine XS.iadd X3.here hx rfl (hb hby at_232) rfl ?_
      show Steps p.tables e below (T3.setTop (mkF m 233 (la0_16 p0 p1 p2 p3 p4 b0_64 b0_70) [(.int (0 : Int32))])) t
      refine XS.istore X3.here hx rfl (hb hby at_233) rfl (l' := (la0_17 p0 p1 p2 p3 p4 b0_64 b0_70)) rfl ?_
      show Steps p.tables e below (T3.setTop (mkF m 235 (la0_17 p0 p1 p2 p3 p4 b0_64 b0_70) [])) t
      refine XS.aload X3.here hx rfl (hb hby at_235) rfl rfl ?_
      show Steps p.tables e below (T3.setTop (mkF m 237 (la0_17 p0 p1 p2 p3 p4 b0_64 b0_70) [(.ref b0_70)])) t
      refine XS.aload X3.here hx rfl (hb hby at_237) rfl rfl ?_
      show Steps p.tables e below (T3.setTop (mkF m 239 (la0_17 p0 p1 p2 p3 p4 b0_64 b0_70) [(.ref b0_64), (.ref b0_70)])) t
      exact k
    obtain ⟨_, _, ⟨T5, L5, k5, n5⟩, -, X5, ⟨Lc5, hQ5, l5, y5, z5⟩, st5⟩ := Jvm.LawKit.callS X3 hx (y := (⟨"com/example/assentor/assentor/check/Odometer", "advance", "([I[I)Z"⟩ : MethodName)) hown (mvT hZ (hw _ (List.mem_of_getElem? (i := 2) rfl))) (mvT hZ (hw _ (List.mem_of_getElem? (i := 3) rfl))) (mvT hZ (hw _ (List.mem_of_getElem? (i := 4) rfl))) (mvT hZ (hw _ (List.mem_of_getElem? (i := 5) rfl))) (by decide) (backOf (W := 0) (rm1_0 l Z aZ hw [] b0_70 b0_64 h3 n0 Z3 V3 fc4 (Ne.symm ne_b0_64_b0_70) gle_b0_70) hZ (hw _ (List.mem_of_getElem? (i := 5) rfl)) (hw _ (List.mem_of_getElem? (i := 4) rfl)) (by decide) (by decide)) (g := (mkF m 239 (la0_17 p0 p1 p2 p3 p4 b0_64 b0_70) [(.ref b0_64), (.ref b0_70)])) rfl (by rw [hml]; rfl) (argsL := [(.ref b0_70), (.ref b0_64)]) (rest := []) (lenOf pd___I_I_Z rfl) rfl (by show 2 * 0 + _ ≤ _; exact Nat.le_of_eq rfl) (hb hby at_239) (fun _ _ => ⟨rfl, e3, (by decide : 2 + 0 ≤ _), (by decide : 0 + 0 ≤ _)⟩)
    dsimp only [Pt.U, Pt.locs, Pt.cells, Pt.slots] at X5 l5 y5 z5 st5 hQ5
    subst l5 y5 z5
    obtain ⟨rfl, N5q, u5_0, u5_1⟩ := hQ5
    have N5 := Fr.app N0 N5q
    have Z5 : n0 ≤ T5.heap.size := Nat.le_trans Z3 u5_0.1
    have fc6 : OArr Z T5.heap b0_64 .int (0 : Int32) [] (.int (0 : Int32)) := (fc4.keep u5_0 (ninS ne_b0_64_b0_70 nin0))
    refine OEnd.go (g' := (mkF m 242 (la0_17 p0 p1 p2 p3 p4 b0_64 b0_70) [(.int f1_0)])) st5 ?_
    refine OEnd.go (T' := T5) (g' := (mkF m 295 (la0_21 p0 p1 p2 p3 p4 b0_64 b0_70) [(.int (1 : Int32)), (.int (0 : Int32))])) (fun t k => ?_) ?_
    · show Steps p.tables e below (T5.setTop (mkF m 242 (la0_17 p0 p1 p2 p3 p4 b0_64 b0_70) [(.int f1_0)])) t
      refine XS.istore X5.here hx rfl (hb hby at_242) rfl (l' := (la0_18 p0 p1 p2 p3 p4 b0_64 b0_70)) rfl ?_
      show Steps p.tables e below (T5.setTop (mkF m 244 (la0_18 p0 p1 p2 p3 p4 b0_64 b0_70) [])) t
      refine XS.iload X5.here hx rfl (hb hby at_244) rfl ?_
      show Steps p.tables e below (T5.setTop (mkF m 246 (la0_18 p0 p1 p2 p3 p4 b0_64 b0_70) [(.int (0 : Int32))])) t
      refine XS.ifYes X5.here hx rfl (pc0 := 246) (pc' := 256) rfl (hb hby at_246) rfl ((if0 _ _).trans (flt ((by decide))).2.2.2) (by decide) (by decide) ?_
      show Steps p.tables e below (T5.setTop (mkF m 256 (la0_18 p0 p1 p2 p3 p4 b0_64 b0_70) [])) t
      refine XS.iconst X5.here hx rfl (hb hby at_256) ?_
      show Steps p.tables e below (T5.setTop (mkF m 257 (la0_18 p0 p1 p2 p3 p4 b0_64 b0_70) [(.int (0 : Int32))])) t
      refine XS.istore X5.here hx rfl (hb hby at_257) rfl (l' := (la0_19 p0 p1 p2 p3 p4 b0_64 b0_70)) rfl ?_
      show Steps p.tables e below (T5.setTop (mkF m 259 (la0_19 p0 p1 p2 p3 p4 b0_64 b0_70) [])) t
      refine XS.iload X5.here hx rfl (hb hby at_259) rfl ?_
      show Steps p.tables e below (T5.setTop (mkF m 261 (la0_19 p0 p1 p2 p3 p4 b0_64 b0_70) [(.int (0 : Int32))])) t
      refine XS.iconst X5.here hx rfl (hb hby at_261) ?_
      show Steps p.tables e below (T5.setTop (mkF m 262 (la0_19 p0 p1 p2 p3 p4 b0_64 b0_70) [(.int (1 : Int32)), (.int (0 : Int32))])) t
      refine XS.icmpYes X5.here hx rfl (pc0 := 262) (pc' := 272) rfl (hb hby at_262) rfl (flt ((by decide))).2.2.2 (by decide) (by decide) ?_
      show Steps p.tables e below (T5.setTop (mkF m 272 (la0_19 p0 p1 p2 p3 p4 b0_64 b0_70) [])) t
      refine XS.iconst X5.here hx rfl (hb hby at_272) ?_
      show Steps p.tables e below (T5.setTop (mkF m 273 (la0_19 p0 p1 p2 p3 p4 b0_64 b0_70) [(.int (0 : Int32))])) t
      refine XS.istore X5.here hx rfl (hb hby at_273) rfl (l' := (la0_20 p0 p1 p2 p3 p4 b0_64 b0_70)) rfl ?_
      show Steps p.tables e below (T5.setTop (mkF m 275 (la0_20 p0 p1 p2 p3 p4 b0_64 b0_70) [])) t
      refine XS.iload X5.here hx rfl (hb hby at_275) rfl ?_
      show Steps p.tables e below (T5.setTop (mkF m 277 (la0_20 p0 p1 p2 p3 p4 b0_64 b0_70) [(.int (0 : Int32))])) t
      refine XS.iconst X5.here hx rfl (hb hby at_277) ?_
      show Steps p.tables e below (T5.setTop (mkF m 278 (la0_20 p0 p1 p2 p3 p4 b0_64 b0_70) [(.int (2 : Int32)), (.int (0 : Int32))])) t
      refine XS.icmpYes X5.here hx rfl (pc0 := 278) (pc' := 288) rfl (hb hby at_278) rfl (flt ((by decide))).2.2.2 (by decide) (by decide) ?_
      show Steps p.tables e below (T5.setTop (mkF m 288 (la0_20 p0 p1 p2 p3 p4 b0_64 b0_70) [])) t
      refine XS.iconst X5.here hx rfl (hb hby at_288) ?_
      show Steps p.tables e below (T5.setTop (mkF m 289 (la0_20 p0 p1 p2 p3 p4 b0_64 b0_70) [(.int (0 : Int32))])) t
      refine XS.istore X5.here hx rfl (hb hby at_289) rfl (l' := (la0_21 p0 p1 p2 p3 p4 b0_64 b0_70)) rfl ?_
      show Steps p.tables e below (T5.setTop (mkF m 291 (la0_21 p0 p1 p2 p3 p4 b0_64 b0_70) [])) t
      refine XS.iload X5.here hx rfl (hb hby at_291) rfl ?_
      show Steps p.tables e below (T5.setTop (mkF m 293 (la0_21 p0 p1 p2 p3 p4 b0_64 b0_70) [(.int (0 : Int32))])) t
      refine XS.iload X5.here hx rfl (hb hby at_293) rfl ?_
      show Steps p.tables e below (T5.setTop (mkF m 295 (la0_21 p0 p1 p2 p3 p4 b0_64 b0_70) [(.int (1 : Int32)), (.int (0 : Int32))])) t
      exact k
    obtain ⟨_, _, ⟨T7, L7, k7, n7⟩, -, X7, ⟨Lc7, hQ7, l7, y7, z7⟩, st7⟩ := Jvm.LawKit.callS X5 hx (y := (⟨"com/example/assentor/assentor/check/OdometerAdvancePinLaw", "inRange", "(II)Z"⟩ : MethodName)) hown (mvT hZ (hw _ (List.mem_of_getElem? (i := 6) rfl))) (mvT hZ (hw _ (List.mem_of_getElem? (i := 7) rfl))) (mvT hZ (hw _ (List.mem_of_getElem? (i := 8) rfl))) (mvT hZ (hw _ (List.mem_of_getElem? (i := 9) rfl))) (by decide) (backOf (W := 0) (rm2 l Z aZ hw [] (0 : Int32) (1 : Int32) T5.heap n0 Z5 ) hZ (hw _ (List.mem_of_getElem? (i := 9) rfl)) (hw _ (List.mem_of_getElem? (i := 8) rfl)) (by decide) (by decide)) (g := (mkF m 295 (la0_21 p0 p1 p2 p3 p4 b0_64 b0_70) [(.int (1 : Int32)), (.int (0 : Int32))])) rfl (by rw [hml]; rfl) (argsL := [(.int (0 : Int32)), (.int (1 : Int32))]) (rest := []) (lenOf pd__II_Z rfl) rfl (by show 2 * 0 + _ ≤ _; exact Nat.le_of_eq rfl) (hb hby at_295) (fun _ _ => ⟨rfl, rfl, (by decide : 2 + 0 ≤ _), (by decide : 0 + 0 ≤ _)⟩)
    dsimp only [Pt.U, Pt.locs, Pt.cells, Pt.slots] at X7 l7 y7 z7 st7 hQ7
    subst l7 y7 z7
    obtain ⟨rfl, N7q, e7⟩ := hQ7
    have N7 := Fr.app N5 N7q
    refine OEnd.go (g' := (mkF m 298 (la0_21 p0 p1 p2 p3 p4 b0_64 b0_70) [(.int (f2 (0 : Int32) (1 : Int32)))])) st7 ?_
    obtain ⟨T9, L9, X9, e9, N9, st9⟩ : ORch p l e room_1 s m #[(.int p0), (.int p1), (.int p2), (.int p3), (.int p4)] below meth c n0 T7 (mkF m 298 (la0_21 p0 p1 p2 p3 p4 b0_64 b0_70) [(.int (f2 (0 : Int32) (1 : Int32)))]) T5.heap (mkF m 326 (la0_21 p0 p1 p2 p3 p4 b0_64 b0_70) [(.int (if (f2 (0 : Int32) (1 : Int32)) = (0 : Int32) then (0 : Int32) else (1 : Int32)))]) 2 0 := by
      by_cases hc8 : (f2 (0 : Int32) (1 : Int32)) = (0 : Int32)
      · skip
        refine ORch.go (T' := T7) (g' := (mkF m 325 (la0_21 p0 p1 p2 p3 p4 b0_64 b0_70) [])) (fun t k => ?_) ?_
        · show Steps p.tables e below (T7.setTop (mkF m 298 (la0_21 p0 p1 p2 p3 p4 b0_64 b0_70) [(.int (f2 (0 : Int32) (1 : Int32)))])) t
          refine XS.ifYes X7.here hx rfl (pc0 := 298) (pc' := 325) rfl (hb hby at_298) rfl ((if0 _ _).trans (teq (hc8)).1) (by decide) (by decide) ?_
          show Steps p.tables e below (T7.setTop (mkF m 325 (la0_21 p0 p1 p2 p3 p4 b0_64 b0_70) [])) t
          exact k
        refine ORch.go (T' := T7) (g' := (mkF m 326 (la0_21 p0 p1 p2 p3 p4 b0_64 b0_70) [(.int (0 : Int32))])) (fun t k => ?_) ?_
        · show Steps p.tables e below (T7.setTop (mkF m 325 (la0_21 p0 p1 p2 p3 p4 b0_64 b0_70) [])) t
          refine XS.iconst X7.here hx rfl (hb hby at_325) ?_
          show Steps p.tables e below (T7.setTop (mkF m 326 (la0_21 p0 p1 p2 p3 p4 b0_64 b0_70) [(.int (0 : Int32))])) t
          exact k
        exact ⟨_, _, X7, e7, N7, fun t k => (own_k (f := fun (z : Int32) => mkF m 326 #[.val (.int p0), .val (.int p1), .val (.int p2), .val (.int p3), .val (.int p4), .val (.int (0 : Int32)), .val (.int (v0_11 p0 p1 p2 p3 p4)), .val (.int (v0_21 p0 p1 p2 p3 p4)), .val (.int (v0_32 p0 p1 p2 p3 p4)), .val (.int (v0_41 p0 p1 p2 p3 p4)), .val (.int (v0_50 p0 p1 p2 p3 p4)), .val (.int (v0_60 p0 p1 p2 p3 p4)), .val (.ref b0_64), .val (.ref b0_70), .val (.int (1 : Int32)), .val (.int (1 : Int32)), .val (.int (1 : Int32)), .val (.int (0 : Int32)), .val (.int (0 : Int32)), .val (.int (0 : Int32)), .val (.int (1 : Int32)), .val (.int (0 : Int32)), .val (.int f1_0), .val (.int (0 : Int32)), .val (.int (0 : Int32)), .val (.int (0 : Int32)), .unset, .unset, .unset, .unset, .unset] [(.int z)]) (if_pos hc8) k)⟩
      · skip
        refine ORch.go (T' := T7) (g' := (mkF m 301 (la0_21 p0 p1 p2 p3 p4 b0_64 b0_70) [])) (fun t k => ?_) ?_
        · show Steps p.tables e below (T7.setTop (mkF m 298 (la0_21 p0 p1 p2 p3 p4 b0_64 b0_70) [(.int (f2 (0 : Int32) (1 : Int32)))])) t
          refine XS.ifNo X7.here hx rfl (hb hby at_298) rfl ((if0 _ _).trans (feq (hc8)).1) ?_
          show Steps p.tables e below (T7.setTop (mkF m 301 (la0_21 p0 p1 p2 p3 p4 b0_64 b0_70) [])) t
          exact k
        refine ORch.go (T' := T7) (g' := (mkF m 305 (la0_21 p0 p1 p2 p3 p4 b0_64 b0_70) [(.int (1 : Int32)), (.int (0 : Int32))])) (fun t k => ?_) ?_
        · show Steps p.tables e below (T7.setTop (mkF m 301 (la0_21 p0 p1 p2 p3 p4 b0_64 b0_70) [])) t
          refine XS.iload X7.here hx rfl (hb hby at_301) rfl ?_
          show Steps p.tables e below (T7.setTop (mkF m 303 (la0_21 p0 p1 p2 p3 p4 b0_64 b0_70) [(.int (0 : Int32))])) t
          refine XS.iload X7.here hx rfl (hb hby at_303) rfl ?_
          show Steps p.tables e below (T7.setTop (mkF m 305 (la0_21 p0 p1 p2 p3 p4 b0_64 b0_70) [(.int (1 : Int32)), (.int (0 : Int32))])) t
          exact k
        obtain ⟨_, _, ⟨T10, L10, k10, n10⟩, -, X10, ⟨Lc10, hQ10, l10, y10, z10⟩, st10⟩ := Jvm.LawKit.callS X7 hx (y := (⟨"com/example/assentor/assentor/check/OdometerAdvancePinLaw", "inRange", "(II)Z"⟩ : MethodName)) hown (mvT hZ (hw _ (List.mem_of_getElem? (i := 6) rfl))) (mvT hZ (hw _ (List.mem_of_getElem? (i := 7) rfl))) (mvT hZ (hw _ (List.mem_of_getElem? (i := 8) rfl))) (mvT hZ (hw _ (List.mem_of_getElem? (i := 9) rfl))) (by decide) (backOf (W := 0) (rm2 l Z aZ hw [] (0 : Int32) (1 : Int32) T5.heap n0 Z5 ) hZ (hw _ (List.mem_of_getElem? (i := 9) rfl)) (hw _ (List.mem_of_getElem? (i := 8) rfl)) (by decide) (by decide)) (g := (mkF m 305 (la0_21 p0 p1 p2 p3 p4 b0_64 b0_70) [(.int (1 : Int32)), (.int (0 : Int32))])) rfl (by rw [hml]; rfl) (argsL := [(.int (0 : Int32)), (.int (1 : Int32))]) (rest := []) (lenOf pd__II_Z rfl) rfl (by show 2 * 0 + _ ≤ _; exact Nat.le_of_eq rfl) (hb hby at_305) (fun _ _ => ⟨rfl, e7, (by decide : 2 + 0 ≤ _), (by decide : 0 + 0 ≤ _)⟩)
        dsimp only [Pt.U, Pt.locs, Pt.cells, Pt.slots] at X10 l10 y10 z10 st10 hQ10
        subst l10 y10 z10
        obtain ⟨rfl, N10q, e10⟩ := hQ10
        have N10 := Fr.app N7 N10q
        refine ORch.go (g' := (mkF m 308 (la0_21 p0 p1 p2 p3 p4 b0_64 b0_70) [(.int (f2 (0 : Int32) (1 : Int32)))])) st10 ?_
        refine ORch.go (T' := T10) (g' := (mkF m 315 (la0_21 p0 p1 p2 p3 p4 b0_64 b0_70) [(.int (1 : Int32)), (.int (0 : Int32))])) (fun t k => ?_) ?_
        · show Steps p.tables e below (T10.setTop (mkF m 308 (la0_21 p0 p1 p2 p3 p4 b0_64 b0_70) [(.int (f2 (0 : Int32) (1 : Int32)))])) t
          refine XS.ifNo X10.here hx rfl (hb hby at_308) rfl ((if0 _ _).trans (feq (hc8)).1) ?_
          show Steps p.tables e below (T10.setTop (mkF m 311 (la0_21 p0 p1 p2 p3 p4 b0_64 b0_70) [])) t
          refine XS.iload X10.here hx rfl (hb hby at_311) rfl ?_
          show Steps p.tables e below (T10.setTop (mkF m 313 (la0_21 p0 p1 p2 p3 p4 b0_64 b0_70) [(.int (0 : Int32))])) t
          refine XS.iload X10.here hx rfl (hb hby at_313) rfl ?_
          show Steps p.tables e below (T10.setTop (mkF m 315 (la0_21 p0 p1 p2 p3 p4 b0_64 b0_70) [(.int (1 : Int32)), (.int (0 : Int32))])) t
          exact k
        obtain ⟨_, _, ⟨T11, L11, k11, n11⟩, -, X11, ⟨Lc11, hQ11, l11, y11, z11⟩, st11⟩ := Jvm.LawKit.callS X10 hx (y := (⟨"com/example/assentor/assentor/check/OdometerAdvancePinLaw", "inRange", "(II)Z"⟩ : MethodName)) hown (mvT hZ (hw _ (List.mem_of_getElem? (i := 6) rfl))) (mvT hZ (hw _ (List.mem_of_getElem? (i := 7) rfl))) (mvT hZ (hw _ (List.mem_of_getElem? (i := 8) rfl))) (mvT hZ (hw _ (List.mem_of_getElem? (i := 9) rfl))) (by decide) (backOf (W := 0) (rm2 l Z aZ hw [] (0 : Int32) (1 : Int32) T5.heap n0 Z5 ) hZ (hw _ (List.mem_of_getElem? (i := 9) rfl)) (hw _ (List.mem_of_getElem? (i := 8) rfl)) (by decide) (by decide)) (g := (mkF m 315 (la0_21 p0 p1 p2 p3 p4 b0_64 b0_70) [(.int (1 : Int32)), (.int (0 : Int32))])) rfl (by rw [hml]; rfl) (argsL := [(.int (0 : Int32)), (.int (1 : Int32))]) (rest := []) (lenOf pd__II_Z rfl) rfl (by show 2 * 0 + _ ≤ _; exact Nat.le_of_eq rfl) (hb hby at_315) (fun _ _ => ⟨rfl, e10, (by decide : 2 + 0 ≤ _), (by decide : 0 + 0 ≤ _)⟩)
        dsimp only [Pt.U, Pt.locs, Pt.cells, Pt.slots] at X11 l11 y11 z11 st11 hQ11
        subst l11 y11 z11
        obtain ⟨rfl, N11q, e11⟩ := hQ11
        have N11 := Fr.app N10 N11q
        refine ORch.go (g' := (mkF m 318 (la0_21 p0 p1 p2 p3 p4 b0_64 b0_70) [(.int (f2 (0 : Int32) (1 : Int32)))])) st11 ?_
        refine ORch.go (T' := T11) (g' := (mkF m 326 (la0_21 p0 p1 p2 p3 p4 b0_64 b0_70) [(.int (1 : Int32))])) (fun t k => ?_) ?_
        · show Steps p.tables e below (T11.setTop (mkF m 318 (la0_21 p0 p1 p2 p3 p4 b0_64 b0_70) [(.int (f2 (0 : Int32) (1 : Int32)))])) t
          refine XS.ifNo X11.here hx rfl (hb hby at_318) rfl ((if0 _ _).trans (feq (hc8)).1) ?_
          show Steps p.tables e below (T11.setTop (mkF m 321 (la0_21 p0 p1 p2 p3 p4 b0_64 b0_70) [])) t
          refine XS.iconst X11.here hx rfl (hb hby at_321) ?_
          show Steps p.tables e below (T11.setTop (mkF m 322 (la0_21 p0 p1 p2 p3 p4 b0_64 b0_70) [(.int (1 : Int32))])) t
          refine XS.goto X11.here hx rfl (pc0 := 322) (pc' := 326) rfl (hb hby at_322) (by decide) (by decide) ?_
          show Steps p.tables e below (T11.setTop (mkF m 326 (la0_21 p0 p1 p2 p3 p4 b0_64 b0_70) [(.int (1 : Int32))])) t
          exact k
        exact ⟨_, _, X11, e11, N11, fun t k => (own_k (f := fun (z : Int32) => mkF m 326 #[.val (.int p0), .val (.int p1), .val (.int p2), .val (.int p3), .val (.int p4), .val (.int (0 : Int32)), .val (.int (v0_11 p0 p1 p2 p3 p4)), .val (.int (v0_21 p0 p1 p2 p3 p4)), .val (.int (v0_32 p0 p1 p2 p3 p4)), .val (.int (v0_41 p0 p1 p2 p3 p4)), .val (.int (v0_50 p0 p1 p2 p3 p4)), .val (.int (v0_60 p0 p1 p2 p3 p4)), .val (.ref b0_64), .val (.ref b0_70), .val (.int (1 : Int32)), .val (.int (1 : Int32)), .val (.int (1 : Int32)), .val (.int (0 : Int32)), .val (.int (0 : Int32)), .val (.int (0 : Int32)), .val (.int (1 : Int32)), .val (.int (0 : Int32)), .val (.int f1_0), .val (.int (0 : Int32)), .val (.int (0 : Int32)), .val (.int (0 : Int32)), .unset, .unset, .unset, .unset, .unset] [(.int z)]) (if_neg hc8) k)⟩
    refine OEnd.go (g' := (mkF m 326 (la0_21 p0 p1 p2 p3 p4 b0_64 b0_70) [(.int (if (f2 (0 : Int32) (1 : Int32)) = (0 : Int32) then (0 : Int32) else (1 : Int32)))])) st9 ?_
    refine OEnd.go (T' := T9) (g' := (mkF m 428 (la0_26 p0 p1 p2 p3 p4 b0_64 b0_70) [(.int (v0_326 p0 p1 p2 p3 p4))])) (fun t k => ?_) ?_
    · show Steps p.tables e below (T9.setTop (mkF m 326 (la0_21 p0 p1 p2 p3 p4 b0_64 b0_70) [(.int (if (f2 (0 : Int32) (1 : Int32)) = (0 : Int32) then (0 : Int32) else (1 : Int32)))])) t
      refine XS.istore X9.here hx rfl (hb hby at_326) rfl (l' := (la0_22 p0 p1 p2 p3 p4 b0_64 b0_70)) rfl ?_
      show Steps p.tables e below (T9.setTop (mkF m 328 (la0_22 p0 p1 p2 p3 p4 b0_64 b0_70) [])) t
      refine XS.iload X9.here hx rfl (hb hby at_328) rfl ?_
      show Steps p.tables e below (T9.setTop (mkF m 330 (la0_22 p0 p1 p2 p3 p4 b0_64 b0_70) [(.int (0 : Int32))])) t
      refine XS.ifYes X9.here hx rfl (pc0 := 330) (pc' := 342) rfl (hb hby at_330) rfl ((if0 _ _).trans (flt ((by decide))).2.2.2) (by decide) (by decide) ?_
      show Steps p.tables e below (T9.setTop (mkF m 342 (la0_22 p0 p1 p2 p3 p4 b0_64 b0_70) [])) t
      refine XS.iload X9.here hx rfl (hb hby at_342) rfl ?_
      show Steps p.tables e below (T9.setTop (mkF m 344 (la0_22 p0 p1 p2 p3 p4 b0_64 b0_70) [(.int (0 : Int32))])) t
      refine XS.iconst X9.here hx rfl (hb hby at_344) ?_
      show Steps p.tables e below (T9.setTop (mkF m 345 (la0_22 p0 p1 p2 p3 p4 b0_64 b0_70) [(.int (1 : Int32)), (.int (0 : Int32))])) t
      refine XS.icmpYes X9.here hx rfl (pc0 := 345) (pc' := 357) rfl (hb hby at_345) rfl (flt ((by decide))).2.2.2 (by decide) (by decide) ?_
      show Steps p.tables e below (T9.setTop (mkF m 357 (la0_22 p0 p1 p2 p3 p4 b0_64 b0_70) [])) t
      refine XS.iload X9.here hx rfl (hb hby at_357) rfl ?_
      show Steps p.tables e below (T9.setTop (mkF m 359 (la0_22 p0 p1 p2 p3 p4 b0_64 b0_70) [(.int (0 : Int32))])) t
      refine XS.iconst X9.here hx rfl (hb hby at_359) ?_
      show Steps p.tables e below (T9.setTop (mkF m 360 (la0_22 p0 p1 p2 p3 p4 b0_64 b0_70) [(.int (2 : Int32)), (.int (0 : Int32))])) t
      refine XS.icmpYes X9.here hx rfl (pc0 := 360) (pc' := 372) rfl (hb hby at_360) rfl (flt ((by decide))).2.2.2 (by decide) (by decide) ?_
      show Steps p.tables e below (T9.setTop (mkF m 372 (la0_22 p0 p1 p2 p3 p4 b0_64 b0_70) [])) t
      refine XS.iconst X9.here hx rfl (hb hby at_372) ?_
      show Steps p.tables e below (T9.setTop (mkF m 373 (la0_22 p0 p1 p2 p3 p4 b0_64 b0_70) [(.int (1 : Int32))])) t
      refine XS.goto X9.here hx rfl (pc0 := 373) (pc' := 377) rfl (hb hby at_373) (by decide) (by decide) ?_
      show Steps p.tables e below (T9.setTop (mkF m 377 (la0_22 p0 p1 p2 p3 p4 b0_64 b0_70) [(.int (1 : Int32))])) t
      refine XS.istore X9.here hx rfl (hb hby at_377) rfl (l' := (la0_23 p0 p1 p2 p3 p4 b0_64 b0_70)) rfl ?_
      show Steps p.tables e below (T9.setTop (mkF m 379 (la0_23 p0 p1 p2 p3 p4 b0_64 b0_70) [])) t
      refine XS.iload X9.here hx rfl (hb hby at_379) rfl ?_
      show Steps p.tables e below (T9.setTop (mkF m 381 (la0_23 p0 p1 p2 p3 p4 b0_64 b0_70) [(.int (0 : Int32))])) t
      refine XS.iload X9.here hx rfl (hb hby at_381) rfl ?_
      show Steps p.tables e below (T9.setTop (mkF m 383 (la0_23 p0 p1 p2 p3 p4 b0_64 b0_70) [(.int (1 : Int32)), (.int (0 : Int32))])) t
      refine XS.iload X9.here hx rfl (hb hby at_383) rfl ?_
      show Steps p.tables e below (T9.setTop (mkF m 385 (la0_23 p0 p1 p2 p3 p4 b0_64 b0_70) [(.int (0 : Int32)), (.int (1 : Int32)), (.int (0 : Int32))])) t
      refine XS.iload X9.here hx rfl (hb hby at_385) rfl ?_
      show Steps p.tables e below (T9.setTop (mkF m 387 (la0_23 p0 p1 p2 p3 p4 b0_64 b0_70) [(.int (1 : Int32)), (.int (0 : Int32)), (.int (1 : Int32)), (.int (0 : Int32))])) t
      refine XS.iload X9.here hx rfl (hb hby at_387) rfl ?_
      show Steps p.tables e below (T9.setTop (mkF m 389 (la0_23 p0 p1 p2 p3 p4 b0_64 b0_70) [(.int (0 : Int32)), (.int (1 : Int32)), (.int (0 : Int32)), (.int (1 : Int32)), (.int (0 : Int32))])) t
      refine XS.imul X9.here hx rfl (hb hby at_389) rfl ?_
      show Steps p.tables e below (T9.setTop (mkF m 390 (la0_23 p0 p1 p2 p3 p4 b0_64 b0_70) [(.int (0 : Int32)), (.int (0 : Int32)), (.int (1 : Int32)), (.int (0 : Int32))])) t
      refine XS.iadd X9.here hx rfl (hb hby at_390) rfl ?_
      show Steps p.tables e below (T9.setTop (mkF m 391 (la0_23 p0 p1 p2 p3 p4 b0_64 b0_70) [(.int (0 : Int32)), (.int (1 : Int32)), (.int (0 : Int32))])) t
      refine XS.imul X9.here hx rfl (hb hby at_391) rfl ?_
      show Steps p.tables e below (T9.setTop (mkF m 392 (la0_23 p0 p1 p2 p3 p4 b0_64 b0_70) [(.int (0 : Int32)), (.int (0 : Int32))])) t
      refine XS.iadd X9.here hx rfl (hb hby at_392) rfl ?_
      show Steps p.tables e below (T9.setTop (mkF m 393 (la0_23 p0 p1 p2 p3 p4 b0_64 b0_70) [(.int (0 : Int32))])) t
      refine XS.istore X9.here hx rfl (hb hby at_393) rfl (l' := (la0_24 p0 p1 p2 p3 p4 b0_64 b0_70)) rfl ?_
      show Steps p.tables e below (T9.setTop (mkF m 395 (la0_24 p0 p1 p2 p3 p4 b0_64 b0_70) [])) t
      refine XS.iload X9.here hx rfl (hb hby at_395) rfl ?_
      show Steps p.tables e below (T9.setTop (mkF m 397 (la0_24 p0 p1 p2 p3 p4 b0_64 b0_70) [(.int (0 : Int32))])) t
      refine XS.iconst X9.here hx rfl (hb hby at_397) ?_
      show Steps p.tables e below (T9.setTop (mkF m 398 (la0_24 p0 p1 p2 p3 p4 b0_64 b0_70) [(.int (1 : Int32)), (.int (0 : Int32))])) t
      refine XS.iadd X9.here hx rfl (hb hby at_398) rfl ?_
      show Steps p.tables e below (T9.setTop (mkF m 399 (la0_24 p0 p1 p2 p3 p4 b0_64 b0_70) [(.int (1 : Int32))])) t
      refine XS.iload X9.here hx rfl (hb hby at_399) rfl ?_
      show Steps p.tables e below (T9.setTop (mkF m 401 (la0_24 p0 p1 p2 p3 p4 b0_64 b0_70) [(.int (1 : Int32)), (.int (1 : Int32))])) t
      refine XS.icmpNo X9.here hx rfl (hb hby at_401) rfl (teq ((by decide))).2 ?_
      show Steps p.tables e below (T9.setTop (mkF m 404 (la0_24 p0 p1 p2 p3 p4 b0_64 b0_70) [])) t
      refine XS.iconst X9.here hx rfl (hb hby at_404) ?_
      show Steps p.tables e below (T9.setTop (mkF m 405 (la0_24 p0 p1 p2 p3 p4 b0_64 b0_70) [(.int (1 : Int32))])) t
      refine XS.goto X9.here hx rfl (pc0 := 405) (pc' := 409) rfl (hb hby at_405) (by decide) (by decide) ?_
      show Steps p.tables e below (T9.setTop (mkF m 409 (la0_24 p0 p1 p2 p3 p4 b0_64 b0_70) [(.int (1 : Int32))])) t
      refine XS.istore X9.here hx rfl (hb hby at_409) rfl (l' := (la0_25 p0 p1 p2 p3 p4 b0_64 b0_70)) rfl ?_
      show Steps p.tables e below (T9.setTop (mkF m 411 (la0_25 p0 p1 p2 p3 p4 b0_64 b0_70) [])) t
      refine XS.iload X9.here hx rfl (hb hby at_411) rfl ?_
      show Steps p.tables e below (T9.setTop (mkF m 413 (la0_25 p0 p1 p2 p3 p4 b0_64 b0_70) [(.int (1 : Int32))])) t
      refine XS.ifNo X9.here hx rfl (hb hby at_413) rfl ((if0 _ _).trans (feq ((by decide))).1) ?_
      show Steps p.tables e below (T9.setTop (mkF m 416 (la0_25 p0 p1 p2 p3 p4 b0_64 b0_70) [])) t
      refine XS.iconst X9.here hx rfl (hb hby at_416) ?_
      show Steps p.tables e below (T9.setTop (mkF m 417 (la0_25 p0 p1 p2 p3 p4 b0_64 b0_70) [(.int (0 : Int32))])) t
      refine XS.goto X9.here hx rfl (pc0 := 417) (pc' := 424) rfl (hb hby at_417) (by decide) (by decide) ?_
      show Steps p.tables e below (T9.setTop (mkF m 424 (la0_25 p0 p1 p2 p3 p4 b0_64 b0_70) [(.int (0 : Int32))])) t
      refine XS.istore X9.here hx rfl (hb hby at_424) rfl (l' := (la0_26 p0 p1 p2 p3 p4 b0_64 b0_70)) rfl ?_
      show Steps p.tables e below (T9.setTop (mkF m 426 (la0_26 p0 p1 p2 p3 p4 b0_64 b0_70) [])) t
      refine XS.iload X9.here hx rfl (hb hby at_426) rfl ?_
      show Steps p.tables e below (T9.setTop (mkF m 428 (la0_26 p0 p1 p2 p3 p4 b0_64 b0_70) [(.int (v0_326 p0 p1 p2 p3 p4))])) t
      exact k
    refine OEnd.go (T' := T9) (g' := (mkF m 463 (la0_26 p0 p1 p2 p3 p4 b0_64 b0_70) [(.int (if (v0_326 p0 p1 p2 p3 p4) = (0 : Int32) then (0 : Int32) else (if f1_0 = (0 : Int32) then (1 : Int32) else (0 : Int32))))])) (fun t k => ?_) ?_
    · show Steps p.tables e below (T9.setTop (mkF m 428 (la0_26 p0 p1 p2 p3 p4 b0_64 b0_70) [(.int (v0_326 p0 p1 p2 p3 p4))])) t
      by_cases hc12 : (v0_326 p0 p1 p2 p3 p4) = (0 : Int32)
      · skip
        refine XS.ifYes X9.here hx rfl (pc0 := 428) (pc' := 462) rfl (hb hby at_428) rfl ((if0 _ _).trans (teq (hc12)).1) (by decide) (by decide) ?_
        show Steps p.tables e below (T9.setTop (mkF m 462 (la0_26 p0 p1 p2 p3 p4 b0_64 b0_70) [])) t
        refine SGo.go (T' := T9) (g' := (mkF m 463 (la0_26 p0 p1 p2 p3 p4 b0_64 b0_70) [(.int (0 : Int32))])) (fun t k => ?_) ?_
        · show Steps p.tables e below (T9.setTop (mkF m 462 (la0_26 p0 p1 p2 p3 p4 b0_64 b0_70) [])) t
          refine XS.iconst X9.here hx rfl (hb hby at_462) ?_
          show Steps p.tables e below (T9.setTop (mkF m 463 (la0_26 p0 p1 p2 p3 p4 b0_64 b0_70) [(.int (0 : Int32))])) t
          exact k
        exact (own_k (f := fun (z : Int32) => mkF m 463 #[.val (.int p0), .val (.int p1), .val (.int p2), .val (.int p3), .val (.int p4), .val (.int (0 : Int32)), .val (.int (v0_11 p0 p1 p2 p3 p4)), .val (.int (v0_21 p0 p1 p2 p3 p4)), .val (.int (v0_32 p0 p1 p2 p3 p4)), .val (.int (v0_41 p0 p1 p2 p3 p4)), .val (.int (v0_50 p0 p1 p2 p3 p4)), .val (.int (v0_60 p0 p1 p2 p3 p4)), .val (.ref b0_64), .val (.ref b0_70), .val (.int (1 : Int32)), .val (.int (1 : Int32)), .val (.int (1 : Int32)), .val (.int (0 : Int32)), .val (.int (0 : Int32)), .val (.int (0 : Int32)), .val (.int (1 : Int32)), .val (.int (0 : Int32)), .val (.int f1_0), .val (.int (0 : Int32)), .val (.int (0 : Int32)), .val (.int (0 : Int32)), .val (.int (v0_326 p0 p1 p2 p3 p4)), .val (.int (1 : Int32)), .val (.int (0 : Int32)), .val (.int (1 : Int32)), .val (.int (0 : Int32))] [(.int z)]) (if_pos hc12) k)
      · skip
        refine XS.ifNo X9.here hx rfl (hb hby at_428) rfl ((if0 _ _).trans (feq (hc12)).1) ?_
        show Steps p.tables e below (T9.setTop (mkF m 431 (la0_26 p0 p1 p2 p3 p4 b0_64 b0_70) [])) t
        refine SGo.go (T' := T9) (g' := (mkF m 448 (la0_26 p0 p1 p2 p3 p4 b0_64 b0_70) [(.int (0 : Int32)), (.int f1_0)])) (fun t k => ?_) ?_
        · show Steps p.tables e below (T9.setTop (mkF m 431 (la0_26 p0 p1 p2 p3 p4 b0_64 b0_70) [])) t
          refine XS.iload X9.here hx rfl (hb hby at_431) rfl ?_
          show Steps p.tables e below (T9.setTop (mkF m 433 (la0_26 p0 p1 p2 p3 p4 b0_64 b0_70) [(.int (1 : Int32))])) t
          refine XS.ifNo X9.here hx rfl (hb hby at_433) rfl ((if0 _ _).trans (feq ((by decide))).1) ?_
          show Steps p.tables e below (T9.setTop (mkF m 436 (la0_26 p0 p1 p2 p3 p4 b0_64 b0_70) [])) t
          refine XS.iload X9.here hx rfl (hb hby at_436) rfl ?_
          show Steps p.tables e below (T9.setTop (mkF m 438 (la0_26 p0 p1 p2 p3 p4 b0_64 b0_70) [(.int f1_0)])) t
          refine XS.iload X9.here hx rfl (hb hby at_438) rfl ?_
          show Steps p.tables e below (T9.setTop (mkF m 440 (la0_26 p0 p1 p2 p3 p4 b0_64 b0_70) [(.int (1 : Int32)), (.int f1_0)])) t
          refine XS.ifYes X9.here hx rfl (pc0 := 440) (pc' := 447) rfl (hb hby at_440) rfl ((if0 _ _).trans (feq ((by decide))).2) (by decide) (by decide) ?_
          show Steps p.tables e below (T9.setTop (mkF m 447 (la0_26 p0 p1 p2 p3 p4 b0_64 b0_70) [(.int f1_0)])) t
          refine XS.iconst X9.here hx rfl (hb hby at_447) ?_
          show Steps p.tables e below (T9.setTop (mkF m 448 (la0_26 p0 p1 p2 p3 p4 b0_64 b0_70) [(.int (0 : Int32)), (.int f1_0)])) t
          exact k
        by_cases hc13 : f1_0 = (0 : Int32)
        · skip
          refine XS.icmpNo X9.here hx rfl (hb hby at_448) rfl (teq (hc13)).2 ?_
          show Steps p.tables e below (T9.setTop (mkF m 451 (la0_26 p0 p1 p2 p3 p4 b0_64 b0_70) [])) t
          refine SGo.go (T' := T9) (g' := (mkF m 463 (la0_26 p0 p1 p2 p3 p4 b0_64 b0_70) [(.int (1 : Int32))])) (fun t k => ?_) ?_
          · show Steps p.tables e below (T9.setTop (mkF m 451 (la0_26 p0 p1 p2 p3 p4 b0_64 b0_70) [])) t
            refine XS.iload X9.here hx rfl (hb hby at_451) rfl ?_
            show Steps p.tables e below (T9.setTop (mkF m 453 (la0_26 p0 p1 p2 p3 p4 b0_64 b0_70) [(.int (0 : Int32))])) t
            refine XS.iload X9.here hx rfl (hb hby at_453) rfl ?_
            show Steps p.tables e below (T9.setTop (mkF m 455 (la0_26 p0 p1 p2 p3 p4 b0_64 b0_70) [(.int (0 : Int32)), (.int (0 : Int32))])) t
            refine XS.icmpNo X9.here hx rfl (hb hby at_455) rfl (teq ((by decide))).2 ?_
            show Steps p.tables e below (T9.setTop (mkF m 458 (la0_26 p0 p1 p2 p3 p4 b0_64 b0_70) [])) t
            refine XS.iconst X9.here hx rfl (hb hby at_458) ?_
            show Steps p.tables e below (T9.setTop (mkF m 459 (la0_26 p0 p1 p2 p3 p4 b0_64 b0_70) [(.int (1 : Int32))])) t
            refine XS.goto X9.here hx rfl (pc0 := 459) (pc' := 463) rfl (hb hby at_459) (by decide) (by decide) ?_
            show Steps p.tables e below (T9.setTop (mkF m 463 (la0_26 p0 p1 p2 p3 p4 b0_64 b0_70) [(.int (1 : Int32))])) t
            exact k
          exact (own_k (f := fun (z : Int32) => mkF m 463 #[.val (.int p0), .val (.int p1), .val (.int p2), .val (.int p3), .val (.int p4), .val (.int (0 : Int32)), .val (.int (v0_11 p0 p1 p2 p3 p4)), .val (.int (v0_21 p0 p1 p2 p3 p4)), .val (.int (v0_32 p0 p1 p2 p3 p4)), .val (.int (v0_41 p0 p1 p2 p3 p4)), .val (.int (v0_50 p0 p1 p2 p3 p4)), .val (.int (v0_60 p0 p1 p2 p3 p4)), .val (.ref b0_64), .val (.ref b0_70), .val (.int (1 : Int32)), .val (.int (1 : Int32)), .val (.int (1 : Int32)), .val (.int (0 : Int32)), .val (.int (0 : Int32)), .val (.int (0 : Int32)), .val (.int (1 : Int32)), .val (.int (0 : Int32)), .val (.int f1_0), .val (.int (0 : Int32)), .val (.int (0 : Int32)), .val (.int (0 : Int32)), .val (.int (v0_326 p0 p1 p2 p3 p4)), .val (.int (1 : Int32)), .val (.int (0 : Int32)), .val (.int (1 : Int32)), .val (.int (0 : Int32))] [(.int z)]) ((if_neg hc12).trans (if_pos hc13)) k)
        · skip
          refine XS.icmpYes X9.here hx rfl (pc0 := 448) (pc' := 462) rfl (hb hby at_448) rfl (feq (hc13)).2 (by decide) (by decide) ?_
          show Steps p.tables e below (T9.setTop (mkF m 462 (la0_26 p0 p1 p2 p3 p4 b0_64 b0_70) [])) t
          refine SGo.go (T' := T9) (g' := (mkF m 463 (la0_26 p0 p1 p2 p3 p4 b0_64 b0_70) [(.int (0 : Int32))])) (fun t k => ?_) ?_
          · show Steps p.tables e below (T9.setTop (mkF m 462 (la0_26 p0 p1 p2 p3 p4 b0_64 b0_70) [])) t
            refine XS.iconst X9.here hx rfl (hb hby at_462) ?_
            show Steps p.tables e below (T9.setTop (mkF m 463 (la0_26 p0 p1 p2 p3 p4 b0_64 b0_70) [(.int (0 : Int32))])) t
            exact k
          exact (own_k (f := fun (z : Int32) => mkF m 463 #[.val (.int p0), .val (.int p1), .val (.int p2), .val (.int p3), .val (.int p4), .val (.int (0 : Int32)), .val (.int (v0_11 p0 p1 p2 p3 p4)), .val (.int (v0_21 p0 p1 p2 p3 p4)), .val (.int (v0_32 p0 p1 p2 p3 p4)), .val (.int (v0_41 p0 p1 p2 p3 p4)), .val (.int (v0_50 p0 p1 p2 p3 p4)), .val (.int (v0_60 p0 p1 p2 p3 p4)), .val (.ref b0_64), .val (.ref b0_70), .val (.int (1 : Int32)), .val (.int (1 : Int32)), .val (.int (1 : Int32)), .val (.int (0 : Int32)), .val (.int (0 : Int32)), .val (.int (0 : Int32)), .val (.int (1 : Int32)), .val (.int (0 : Int32)), .val (.int f1_0), .val (.int (0 : Int32)), .val (.int (0 : Int32)), .val (.int (0 : Int32)), .val (.int (v0_326 p0 p1 p2 p3 p4)), .val (.int (1 : Int32)), .val (.int (0 : Int32)), .val (.int (1 : Int32)), .val (.int (0 : Int32))] [(.int z)]) ((if_neg hc12).trans (if_neg hc13)) k)
    exact OEnd.nar X9 hx (t := .boolean) Bd.returns (by simp) hlk (hb hby at_463) ⟨(congrArg (fun z => some (Value.int (nar .boolean z))) (own_plain_0 p0 p1 p2 p3 p4)), N9⟩ (by decide) (by decide)
  · skip
    refine OEnd.go (T' := s₁) (g' := (mkF m 62 (la0_27 p0 p1 p2 p3 p4) [])) (fun t k => (own_k (f := fun (z : Int32) => mkF m 62 #[.val (.int p0), .val (.int p1), .val (.int p2), .val (.int p3), .val (.int p4), .val (.int z), .val (.int (v0_11 p0 p1 p2 p3 p4)), .val (.int (v0_21 p0 p1 p2 p3 p4)), .val (.int (v0_32 p0 p1 p2 p3 p4)), .val (.int (v0_41 p0 p1 p2 p3 p4)), .val (.int (v0_50 p0 p1 p2 p3 p4)), .val (.int (v0_60 p0 p1 p2 p3 p4)), .unset, .unset, .unset, .unset, .unset, .unset, .unset, .unset, .unset, .unset, .unset, .unset, .unset, .unset, .unset, .unset, .unset, .unset, .unset] []) hs1.symm k)) ?_
    refine OEnd.go (T' := s₁) (g' := (mkF m 64 (la0_27 p0 p1 p2 p3 p4) [(.int (1 : Int32))])) (fun t k => ?_) ?_
    · show Steps p.tables e below (s₁.setTop (mkF m 62 (la0_27 p0 p1 p2 p3 p4) [])) t
      refine XS.iload X0.here hx rfl (hb hby at_62) rfl ?_
      show Steps p.tables e below (s₁.setTop (mkF m 64 (la0_27 p0 p1 p2 p3 p4) [(.int (1 : Int32))])) t
      exact k
    obtain ⟨T14, h14, k14, X14, e14, E14, A14, st14⟩ := newP X0 hx hZ (hw _ (List.mem_of_getElem? (i := 1) rfl)) e0 (g := (mkF m 64 (la0_27 p0 p1 p2 p3 p4) [(.int (1 : Int32))])) rfl (hb hby at_64) rfl (by decide) (cap := 1) (by decide) (by decide) (by decide) (by decide)
    obtain ⟨b0_64, g14⟩ : ∃ z, z = h0.size := ⟨_, rfl⟩
    rw [← g14] at A14 st14
    have gle_b0_64 : n0 ≤ b0_64 := Nat.le_trans Z0 (Nat.le_of_eq g14.symm)
    have Z14 : n0 ≤ h14.size := Nat.le_trans Z0 E14.1
    have V14 : OArr Z h14 b0_64 .int (1 : Int32) [(.int (0 : Int32))] (.int (0 : Int32)) := ⟨_, (Arv.new A14 (by decide)).pad (pad_rep [] (.int (0 : Int32)) 1)⟩
    refine OEnd.go (g' := (mkF m 66 (la0_27 p0 p1 p2 p3 p4) [(.ref b0_64)])) st14 ?_
    refine OEnd.go (T' := T14) (g' := (mkF m 70 (la0_28 p0 p1 p2 p3 p4 b0_64) [(.int (1 : Int32))])) (fun t k => ?_) ?_
    · show Steps p.tables e below (T14.setTop (mkF m 66 (la0_27 p0 p1 p2 p3 p4) [(.ref b0_64)])) t
      refine XS.astore X14.here hx rfl (hb hby at_66) rfl rfl (l' := (la0_28 p0 p1 p2 p3 p4 b0_64)) rfl ?_
      show Steps p.tables e below (T14.setTop (mkF m 68 (la0_28 p0 p1 p2 p3 p4 b0_64) [])) t
      refine XS.iload X14.here hx rfl (hb hby at_68) rfl ?_
      show Steps p.tables e below (T14.setTop (mkF m 70 (la0_28 p0 p1 p2 p3 p4 b0_64) [(.int (1 : Int32))])) t
      exact k
    obtain ⟨T15, h15, k15, X15, e15, E15, A15, st15⟩ := newP X14 hx hZ (hw _ (List.mem_of_getElem? (i := 1) rfl)) e14 (g := (mkF m 70 (la0_28 p0 p1 p2 p3 p4 b0_64) [(.int (1 : Int32))])) rfl (hb hby at_70) rfl (by decide) (cap := 1) (by decide) (by decide) (by decide) (by decide)
    obtain ⟨b0_70, g15⟩ : ∃ z, z = h14.size := ⟨_, rfl⟩
    rw [← g15] at A15 st15
    have gle_b0_70 : n0 ≤ b0_70 := Nat.le_trans Z14 (Nat.le_of_eq g15.symm)
    have ne_b0_64_b0_70 : b0_64 ≠ b0_70 := Nat.ne_of_lt (Nat.lt_of_lt_of_le V14.lt (Nat.le_of_eq g15.symm))
    have fc16 : OArr Z h15 b0_64 .int (1 : Int32) [(.int (0 : Int32))] (.int (0 : Int32)) := (V14.ext E15)
    have Z15 : n0 ≤ h15.size := Nat.le_trans Z14 E15.1
    have V15 : OArr Z h15 b0_70 .int (1 : Int32) [(.int (0 : Int32))] (.int (0 : Int32)) := ⟨_, (Arv.new A15 (by decide)).pad (pad_rep [] (.int (0 : Int32)) 1)⟩
    refine OEnd.go (g' := (mkF m 72 (la0_28 p0 p1 p2 p3 p4 b0_64) [(.ref b0_70)])) st15 ?_
    refine OEnd.go (T' := T15) (g' := (mkF m 84 (la0_29 p0 p1 p2 p3 p4 b0_64 b0_70) [(.int (v0_11 p0 p1 p2 p3 p4)), (.int (0 : Int32)), (.ref b0_64)])) (fun t k => ?_) ?_
    · show Steps p.tables e below (T15.setTop (mkF m 72 (la0_28 p0 p1 p2 p3 p4 b0_64) [(.ref b0_70)])) t
      refine XS.astore X15.here hx rfl (hb hby at_72) rfl rfl (l' := (la0_29 p0 p1 p2 p3 p4 b0_64 b0_70)) rfl ?_
      show Steps p.tables e below (T15.setTop (mkF m 74 (la0_29 p0 p1 p2 p3 p4 b0_64 b0_70) [])) t
      refine XS.iload X15.here hx rfl (hb hby at_74) rfl ?_
      show Steps p.tables e below (T15.setTop (mkF m 76 (la0_29 p0 p1 p2 p3 p4 b0_64 b0_70) [(.int (1 : Int32))])) t
      refine XS.ifNo X15.here hx rfl (hb hby at_76) rfl ((if0 _ _).trans (tlt ((by decide))).2.2.2) ?_
      show Steps p.tables e below (T15.setTop (mkF m 79 (la0_29 p0 p1 p2 p3 p4 b0_64 b0_70) [])) t
      refine XS.aload X15.here hx rfl (hb hby at_79) rfl rfl ?_
      show Steps p.tables e below (T15.setTop (mkF m 81 (la0_29 p0 p1 p2 p3 p4 b0_64 b0_70) [(.ref b0_64)])) t
      refine XS.iconst X15.here hx rfl (hb hby at_81) ?_
      show Steps p.tables e below (T15.setTop (mkF m 82 (la0_29 p0 p1 p2 p3 p4 b0_64 b0_70) [(.int (0 : Int32)), (.ref b0_64)])) t
      refine XS.iload X15.here hx rfl (hb hby at_82) rfl ?_
      show Steps p.tables e below (T15.setTop (mkF m 84 (la0_29 p0 p1 p2 p3 p4 b0_64 b0_70) [(.int (v0_11 p0 p1 p2 p3 p4)), (.int (0 : Int32)), (.ref b0_64)])) t
      exact k
    obtain ⟨kc17, cl17, Ar17, q17, S17, M17, H17, G17⟩ := id fc16
    have hin17 : ¬ ((0 : Int32) < 0 ∨ cl17.slots.size ≤ ((0 : Int32)).toNatClampNeg) := inb_of S17 ⟨by decide, by decide⟩
    obtain ⟨T17, h17, X17, e17, W17, st17⟩ := stI X15 hx hZ e15 Ar17 (j := (0 : Int32)) hin17 (g := (mkF m 84 (la0_29 p0 p1 p2 p3 p4 b0_64 b0_70) [(.int (v0_11 p0 p1 p2 p3 p4)), (.int (0 : Int32)), (.ref b0_64)])) rfl rfl (hb hby at_84)
    have N17 := Fr.snoc X17 N0 gle_b0_64
    have Z17 : n0 ≤ h17.size := Nat.le_trans Z15 (Keep.of_wr W17).1
    have V17 : OArr Z h17 b0_64 .int (1 : Int32) [(.int (v0_11 p0 p1 p2 p3 p4))] (.int (0 : Int32)) := ⟨_, Arv.set Ar17 q17 S17 M17 H17 G17 rfl W17 0 rfl (Nat.le_of_ble_eq_true rfl)⟩
    have fc18 : OArr Z h17 b0_70 .int (1 : Int32) [(.int (0 : Int32))] (.int (0 : Int32)) := (V15.other W17 (Ne.symm ne_b0_64_b0_70))
    refine OEnd.go (g' := (mkF m 85 (la0_29 p0 p1 p2 p3 p4 b0_64 b0_70) [])) st17 ?_
    refine OEnd.go (T' := T17) (g' := (mkF m 90 (la0_29 p0 p1 p2 p3 p4 b0_64 b0_70) [(.int (v0_41 p0 p1 p2 p3 p4)), (.int (0 : Int32)), (.ref b0_70)])) (fun t k => ?_) ?_
    · show Steps p.tables e below (T17.setTop (mkF m 85 (la0_29 p0 p1 p2 p3 p4 b0_64 b0_70) [])) t
      refine XS.aload X17.here hx rfl (hb hby at_85) rfl rfl ?_
      show Steps p.tables e below (T17.setTop (mkF m 87 (la0_29 p0 p1 p2 p3 p4 b0_64 b0_70) [(.ref b0_70)])) t
      refine XS.iconst X17.here hx rfl (hb hby at_87) ?_
      show Steps p.tables e below (T17.setTop (mkF m 88 (la0_29 p0 p1 p2 p3 p4 b0_64 b0_70) [(.int (0 : Int32)), (.ref b0_70)])) t
      refine XS.iload X17.here hx rfl (hb hby at_88) rfl ?_
      show Steps p.tables e below (T17.setTop (mkF m 90 (la0_29 p0 p1 p2 p3 p4 b0_64 b0_70) [(.int (v0_41 p0 p1 p2 p3 p4)), (.int (0 : Int32)), (.ref b0_70)])) t
      exact k
    obtain ⟨kc19, cl19, Ar19, q19, S19, M19, H19, G19⟩ := id fc18
    have hin19 : ¬ ((0 : Int32) < 0 ∨ cl19.slots.size ≤ ((0 : Int32)).toNatClampNeg) := inb_of S19 ⟨by decide, by decide⟩
    obtain ⟨T19, h19, X19, e19, W19, st19⟩ := stI X17 hx hZ e17 Ar19 (j := (0 : Int32)) hin19 (g := (mkF m 90 (la0_29 p0 p1 p2 p3 p4 b0_64 b0_70) [(.int (v0_41 p0 p1 p2 p3 p4)), (.int (0 : Int32)), (.ref b0_70)])) rfl rfl (hb hby at_90)
    have N19 := Fr.snoc X19 N17 gle_b0_70
    have Z19 : n0 ≤ h19.size := Nat.le_trans Z17 (Keep.of_wr W19).1
    have V19 : OArr Z h19 b0_70 .int (1 : Int32) [(.int (v0_41 p0 p1 p2 p3 p4))] (.int (0 : Int32)) := ⟨_, Arv.set Ar19 q19 S19 M19 H19 G19 rfl W19 0 rfl (Nat.le_of_ble_eq_true rfl)⟩
    have fc20 : OArr Z h19 b0_64 .int (1 : Int32) [(.int (v0_11 p0 p1 p2 p3 p4))] (.int (0 : Int32)) := (V17.other W19 ne_b0_64_b0_70)
    refine OEnd.go (g' := (mkF m 91 (la0_29 p0 p1 p2 p3 p4 b0_64 b0_70) [])) st19 ?_
    refine OEnd.go (T' := T19) (g' := (mkF m 239 (la0_37 p0 p1 p2 p3 p4 b0_64 b0_70) [(.ref b0_64), (.ref b0_70)])) (fun t k => ?_) ?_
    · show Steps p.tables e below (T19.setTop (mkF m 91 (la0_29 p0 p1 p2 p3 p4 b0_64 b0_70) [])) t
      refine XS.iload X19.here hx rfl (hb hby at_91) rfl ?_
      show Steps p.tables e below (T19.setTop (mkF m 93 (la0_29 p0 p1 p2 p3 p4 b0_64 b0_70) [(.int (1 : Int32))])) t
      refine XS.iconst X19.here hx rfl (hb hby at_93) ?_
      show Steps p.tables e below (T19.setTop (mkF m 94 (la0_29 p0 p1 p2 p3 p4 b0_64 b0_70) [(.int (1 : Int32)), (.int (1 : Int32))])) t
      refine XS.icmpYes X19.here hx rfl (pc0 := 94) (pc' := 109) rfl (hb hby at_94) rfl (flt ((by decide))).2.2.2 (by decide) (by decide) ?_
      show Steps p.tables e below (T19.setTop (mkF m 109 (la0_29 p0 p1 p2 p3 p4 b0_64 b0_70) [])) t
      refine XS.iload X19.here hx rfl (hb hby at_109) rfl ?_
      show Steps p.tables e below (T19.setTop (mkF m 111 (la0_29 p0 p1 p2 p3 p4 b0_64 b0_70) [(.int (1 : Int32))])) t
      refine XS.iconst X19.here hx rfl (hb hby at_111) ?_
      show Steps p.tables e below (T19.setTop (mkF m 112 (la0_29 p0 p1 p2 p3 p4 b0_64 b0_70) [(.int (2 : Int32)), (.int (1 : Int32))])) t
      refine XS.icmpYes X19.here hx rfl (pc0 := 112) (pc' := 127) rfl (hb hby at_112) rfl (flt ((by decide))).2.2.2 (by decide) (by decide) ?_
      show Steps p.tables e below (T19.setTop (mkF m 127 (la0_29 p0 p1 p2 p3 p4 b0_64 b0_70) [])) t
      refine XS.iload X19.here hx rfl (hb hby at_127) rfl ?_
      show Steps p.tables e below (T19.setTop (mkF m 129 (la0_29 p0 p1 p2 p3 p4 b0_64 b0_70) [(.int (1 : Int32))])) t
      refine XS.ifNo X19.here hx rfl (hb hby at_129) rfl ((if0 _ _).trans (tlt ((by decide))).2.2.2) ?_
      show Steps p.tables e below (T19.setTop (mkF m 132 (la0_29 p0 p1 p2 p3 p4 b0_64 b0_70) [])) t
      refine XS.iload X19.here hx rfl (hb hby at_132) rfl ?_
      show Steps p.tables e below (T19.setTop (mkF m 134 (la0_29 p0 p1 p2 p3 p4 b0_64 b0_70) [(.int (v0_11 p0 p1 p2 p3 p4))])) t
      refine XS.goto X19.here hx rfl (pc0 := 134) (pc' := 138) rfl (hb hby at_134) (by decide) (by decide) ?_
      show Steps p.tables e below (T19.setTop (mkF m 138 (la0_29 p0 p1 p2 p3 p4 b0_64 b0_70) [(.int (v0_11 p0 p1 p2 p3 p4))])) t
      refine XS.istore X19.here hx rfl (hb hby at_138) rfl (l' := (la0_30 p0 p1 p2 p3 p4 b0_64 b0_70)) rfl ?_
      show Steps p.tables e below (T19.setTop (mkF m 140 (la0_30 p0 p1 p2 p3 p4 b0_64 b0_70) [])) t
      refine XS.iload X19.here hx rfl (hb hby at_140) rfl ?_
      show Steps p.tables e below (T19.setTop (mkF m 142 (la0_30 p0 p1 p2 p3 p4 b0_64 b0_70) [(.int (1 : Int32))])) t
      refine XS.iconst X19.here hx rfl (hb hby at_142) ?_
      show Steps p.tables e below (T19.setTop (mkF m 143 (la0_30 p0 p1 p2 p3 p4 b0_64 b0_70) [(.int (1 : Int32)), (.int (1 : Int32))])) t
      refine XS.icmpYes X19.here hx rfl (pc0 := 143) (pc' := 151) rfl (hb hby at_143) rfl (flt ((by decide))).2.2.2 (by decide) (by decide) ?_
      show Steps p.tables e below (T19.setTop (mkF m 151 (la0_30 p0 p1 p2 p3 p4 b0_64 b0_70) [])) t
      refine XS.iconst X19.here hx rfl (hb hby at_151) ?_
      show Steps p.tables e below (T19.setTop (mkF m 152 (la0_30 p0 p1 p2 p3 p4 b0_64 b0_70) [(.int (1 : Int32))])) t
      refine XS.istore X19.here hx rfl (hb hby at_152) rfl (l' := (la0_31 p0 p1 p2 p3 p4 b0_64 b0_70)) rfl ?_
      show Steps p.tables e below (T19.setTop (mkF m 154 (la0_31 p0 p1 p2 p3 p4 b0_64 b0_70) [])) t
      refine XS.iload X19.here hx rfl (hb hby at_154) rfl ?_
      show Steps p.tables e below (T19.setTop (mkF m 156 (la0_31 p0 p1 p2 p3 p4 b0_64 b0_70) [(.int (1 : Int32))])) t
      refine XS.iconst X19.here hx rfl (hb hby at_156) ?_
      show Steps p.tables e below (T19.setTop (mkF m 157 (la0_31 p0 p1 p2 p3 p4 b0_64 b0_70) [(.int (2 : Int32)), (.int (1 : Int32))])) t
      refine XS.icmpYes X19.here hx rfl (pc0 := 157) (pc' := 165) rfl (hb hby at_157) rfl (flt ((by decide))).2.2.2 (by decide) (by decide) ?_
      show Steps p.tables e below (T19.setTop (mkF m 165 (la0_31 p0 p1 p2 p3 p4 b0_64 b0_70) [])) t
      refine XS.iconst X19.here hx rfl (hb hby at_165) ?_
      show Steps p.tables e below (T19.setTop (mkF m 166 (la0_31 p0 p1 p2 p3 p4 b0_64 b0_70) [(.int (1 : Int32))])) t
      refine XS.istore X19.here hx rfl (hb hby at_166) rfl (l' := (la0_32 p0 p1 p2 p3 p4 b0_64 b0_70)) rfl ?_
      show Steps p.tables e below (T19.setTop (mkF m 168 (la0_32 p0 p1 p2 p3 p4 b0_64 b0_70) [])) t
      refine XS.iload X19.here hx rfl (hb hby at_168) rfl ?_
      show Steps p.tables e below (T19.setTop (mkF m 170 (la0_32 p0 p1 p2 p3 p4 b0_64 b0_70) [(.int (1 : Int32))])) t
      refine XS.ifNo X19.here hx rfl (hb hby at_170) rfl ((if0 _ _).trans (tlt ((by decide))).2.2.2) ?_
      show Steps p.tables e below (T19.setTop (mkF m 173 (la0_32 p0 p1 p2 p3 p4 b0_64 b0_70) [])) t
      refine XS.iload X19.here hx rfl (hb hby at_173) rfl ?_
      show Steps p.tables e below (T19.setTop (mkF m 175 (la0_32 p0 p1 p2 p3 p4 b0_64 b0_70) [(.int (v0_41 p0 p1 p2 p3 p4))])) t
      refine XS.goto X19.here hx rfl (pc0 := 175) (pc' := 179) rfl (hb hby at_175) (by decide) (by decide) ?_
      show Steps p.tables e below (T19.setTop (mkF m 179 (la0_32 p0 p1 p2 p3 p4 b0_64 b0_70) [(.int (v0_41 p0 p1 p2 p3 p4))])) t
      refine XS.istore X19.here hx rfl (hb hby at_179) rfl (l' := (la0_33 p0 p1 p2 p3 p4 b0_64 b0_70)) rfl ?_
      show Steps p.tables e below (T19.setTop (mkF m 181 (la0_33 p0 p1 p2 p3 p4 b0_64 b0_70) [])) t
      refine XS.iload X19.here hx rfl (hb hby at_181) rfl ?_
      show Steps p.tables e below (T19.setTop (mkF m 183 (la0_33 p0 p1 p2 p3 p4 b0_64 b0_70) [(.int (1 : Int32))])) t
      refine XS.iconst X19.here hx rfl (hb hby at_183) ?_
      show Steps p.tables e below (T19.setTop (mkF m 184 (la0_33 p0 p1 p2 p3 p4 b0_64 b0_70) [(.int (1 : Int32)), (.int (1 : Int32))])) t
      refine XS.icmpYes X19.here hx rfl (pc0 := 184) (pc' := 192) rfl (hb hby at_184) rfl (flt ((by decide))).2.2.2 (by decide) (by decide) ?_
      show Steps p.tables e below (T19.setTop (mkF m 192 (la0_33 p0 p1 p2 p3 p4 b0_64 b0_70) [])) t
      refine XS.iconst X19.here hx rfl (hb hby at_192) ?_
      show Steps p.tables e below (T19.setTop (mkF m 193 (la0_33 p0 p1 p2 p3 p4 b0_64 b0_70) [(.int (0 : Int32))])) t
      refine XS.istore X19.here hx rfl (hb hby at_193) rfl (l' := (la0_34 p0 p1 p2 p3 p4 b0_64 b0_70)) rfl ?_
      show Steps p.tables e below (T19.setTop (mkF m 195 (la0_34 p0 p1 p2 p3 p4 b0_64 b0_70) [])) t
      refine XS.iload X19.here hx rfl (hb hby at_195) rfl ?_
      show Steps p.tables e below (T19.setTop (mkF m 197 (la0_34 p0 p1 p2 p3 p4 b0_64 b0_70) [(.int (1 : Int32))])) t
      refine XS.iconst X19.here hx rfl (hb hby at_197) ?_
      show Steps p.tables e below (T19.setTop (mkF m 198 (la0_34 p0 p1 p2 p3 p4 b0_64 b0_70) [(.int (2 : Int32)), (.int (1 : Int32))])) t
      refine XS.icmpYes X19.here hx rfl (pc0 := 198) (pc' := 206) rfl (hb hby at_198) rfl (flt ((by decide))).2.2.2 (by decide) (by decide) ?_
      show Steps p.tables e below (T19.setTop (mkF m 206 (la0_34 p0 p1 p2 p3 p4 b0_64 b0_70) [])) t
      refine XS.iconst X19.here hx rfl (hb hby at_206) ?_
      show Steps p.tables e below (T19.setTop (mkF m 207 (la0_34 p0 p1 p2 p3 p4 b0_64 b0_70) [(.int (0 : Int32))])) t
      refine XS.istore X19.here hx rfl (hb hby at_207) rfl (l' := (la0_35 p0 p1 p2 p3 p4 b0_64 b0_70)) rfl ?_
      show Steps p.tables e below (T19.setTop (mkF m 209 (la0_35 p0 p1 p2 p3 p4 b0_64 b0_70) [])) t
      refine XS.iload X19.here hx rfl (hb hby at_209) rfl ?_
      show Steps p.tables e below (T19.setTop (mkF m 211 (la0_35 p0 p1 p2 p3 p4 b0_64 b0_70) [(.int (v0_11 p0 p1 p2 p3 p4))])) t
      refine XS.iload X19.here hx rfl (hb hby at_211) rfl ?_
      show Steps p.tables e below (T19.setTop (mkF m 213 (la0_35 p0 p1 p2 p3 p4 b0_64 b0_70) [(.int (1 : Int32)), (.int (v0_11 p0 p1 p2 p3 p4))])) t
      refine XS.imul X19.here hx rfl (hb hby at_213) rfl ?_
      show Steps p.tables e below (T19.setTop (mkF m 214 (la0_35 p0 p1 p2 p3 p4 b0_64 b0_70) [(.int ((v0_11 p0 p1 p2 p3 p4) * (1 : Int32)))])) t
      refine XS.iload X19.here hx rfl (hb hby at_214) rfl ?_
      show Steps p.tables e below (T19.setTop (mkF m 216 (la0_35 p0 p1 p2 p3 p4 b0_64 b0_70) [(.int (1 : Int32)), (.int ((v0_11 p0 p1 p2 p3 p4) * (1 : Int32)))])) t
      refine XS.imul X19.here hx rfl (hb hby at_216) rfl ?_
      show Steps p.tables e below (T19.setTop (mkF m 217 (la0_35 p0 p1 p2 p3 p4 b0_64 b0_70) [(.int (((v0_11 p0 p1 p2 p3 p4) * (1 : Int32)) * (1 : Int32)))])) t
      refine XS.istore X19.here hx rfl (hb hby at_217) rfl (l' := (la0_36 p0 p1 p2 p3 p4 b0_64 b0_70)) rfl ?_
      show Steps p.tables e below (T19.setTop (mkF m 219 (la0_36 p0 p1 p2 p3 p4 b0_64 b0_70) [])) t
      refine XS.iload X19.here hx rfl (hb hby at_219) rfl ?_
      show Steps p.tables e below (T19.setTop (mkF m 221 (la0_36 p0 p1 p2 p3 p4 b0_64 b0_70) [(.int (v0_41 p0 p1 p2 p3 p4))])) t
      refine XS.iload X19.here hx rfl (hb hby at_221) rfl ?_
      show Steps p.tables e below (T19.setTop (mkF m 223 (la0_36 p0 p1 p2 p3 p4 b0_64 b0_70) [(.int (v0_11 p0 p1 p2 p3 p4)), (.int (v0_41 p0 p1 p2 p3 p4))])) t
      refine XS.iload X19.here hx rfl (hb hby at_223) rfl ?_
      show Steps p.tables e below (T19.setTop (mkF m 225 (la0_36 p0 p1 p2 p3 p4 b0_64 b0_70) [(.int (0 : Int32)), (.int (v0_11 p0 p1 p2 p3 p4)), (.int (v0_41 p0 p1 p2 p3 p4))])) t
      refine XS.iload X19.here hx rfl (hb hby at_225) rfl ?_
      show Steps p.tables e below (T19.setTop (mkF m 227 (la0_36 p0 p1 p2 p3 p4 b0_64 b0_70) [(.int (1 : Int32)), (.int (0 : Int32)), (.int (v0_11 p0 p1 p2 p3 p4)), (.int (v0_41 p0 p1 p2 p3 p4))])) t
      refine XS.iload X19.here hx rfl (hb hby at_227) rfl ?_
      show Steps p.tables e below (T19.setTop (mkF m 229 (la0_36 p0 p1 p2 p3 p4 b0_64 b0_70) [(.int (0 : Int32)), (.int (1 : Int32)), (.int (0 : Int32)), (.int (v0_11 p0 p1 p2 p3 p4)), (.int (v0_41 p0 p1 p2 p3 p4))])) t
      refine XS.imul X19.here hx rfl (hb hby at_229) rfl ?_
      show Steps p.tables e below (T19.setTop (mkF m 230 (la0_36 p0 p1 p2 p3 p4 b0_64 b0_70) [(.int (0 : Int32)), (.int (0 : Int32)), (.int (v0_11 p0 p1 p2 p3 p4)), (.int (v0_41 p0 p1 p2 p3 p4))])) t
      refine XS.iadd X19.here hx rfl (hb hby at_230) rfl ?_
      show Steps p.tables e below (T19.setTop (mkF m 231 (la0_36 p0 p1 p2 p3 p4 b0_64 b0_70) [(.int (0 : Int32)), (.int (v0_11 p0 p1 p2 p3 p4)), (.int (v0_41 p0 p1 p2 p3 p4))])) t
      refine XS.imul X19.here hx rfl (hb hby at_231) rfl ?_
      show Steps p.tables e below (T19.setTop (mkF m 232 (la0_36 p0 p1 p2 p3 p4 b0_64 b0_70) [(.int ((v0_11 p0 p1 p2 p3 p4) * (0 : Int32))), (.int (v0_41 p0 p1 p2 p3 p4))])) t
      refine XS.iadd X19.here hx rfl (hb hby at_232) rfl ?_
      show Steps p.tables e below (T19.setTop (mkF m 233 (la0_36 p0 p1 p2 p3 p4 b0_64 b0_70) [(.int ((v0_41 p0 p1 p2 p3 p4) + ((v0_11 p0 p1 p2 p3 p4) * (0 : Int32))))])) t
      refine XS.istore X19.here hx rfl (hb hby at_233) rfl (l' := (la0_37 p0 p1 p2 p3 p4 b0_64 b0_70)) rfl ?_
      show Steps p.tables e below (T19.setTop (mkF m 235 (la0_37 p0 p1 p2 p3 p4 b0_64 b0_70) [])) t
      refine XS.aload X19.here hx rfl (hb hby at_235) rfl rfl ?_
      show Steps p.tables e below (T19.setTop (mkF m 237 (la0_37 p0 p1 p2 p3 p4 b0_64 b0_70) [(.ref b0_70)])) t
      refine XS.aload X19.here hx rfl (hb hby at_237) rfl rfl ?_
      show Steps p.tables e below (T19.setTop (mkF m 239 (la0_37 p0 p1 p2 p3 p4 b0_64 b0_70) [(.ref b0_64), (.ref b0_70)])) t
      exact k
    obtain ⟨_, _, ⟨T21, L21, k21, n21⟩, -, X21, ⟨Lc21, hQ21, l21, y21, z21⟩, st21⟩ := Jvm.LawKit.callS X19 hx (y := (⟨"com/example/assentor/assentor/check/Odometer", "advance", "([I[I)Z"⟩ : MethodName)) hown (mvT hZ (hw _ (List.mem_of_getElem? (i := 2) rfl))) (mvT hZ (hw _ (List.mem_of_getElem? (i := 3) rfl))) (mvT hZ (hw _ (List.mem_of_getElem? (i := 4) rfl))) (mvT hZ (hw _ (List.mem_of_getElem? (i := 5) rfl))) (by decide) (backOf (W := 0) (rm1_1 l Z aZ hw [] b0_70 b0_64 (v0_41 p0 p1 p2 p3 p4) (v0_11 p0 p1 p2 p3 p4) h19 n0 Z19 V19 fc20 (Ne.symm ne_b0_64_b0_70) gle_b0_70) hZ (hw _ (List.mem_of_getElem? (i := 5) rfl)) (hw _ (List.mem_of_getElem? (i := 4) rfl)) (by decide) (by decide)) (g := (mkF m 239 (la0_37 p0 p1 p2 p3 p4 b0_64 b0_70) [(.ref b0_64), (.ref b0_70)])) rfl (by rw [hml]; rfl) (argsL := [(.ref b0_70), (.ref b0_64)]) (rest := []) (lenOf pd___I_I_Z rfl) rfl (by show 2 * 0 + _ ≤ _; exact Nat.le_of_eq rfl) (hb hby at_239) (fun _ _ => ⟨rfl, e19, (by decide : 2 + 0 ≤ _), (by decide : 2 + 0 ≤ _)⟩)
    dsimp only [Pt.U, Pt.locs, Pt.cells, Pt.slots] at X21 l21 y21 z21 st21 hQ21
    subst l21 y21 z21
    obtain ⟨rfl, N21q, u21_0, u21_1⟩ := hQ21
    have N21 := Fr.app N19 N21q
    have Z21 : n0 ≤ T21.heap.size := Nat.le_trans Z19 u21_0.1
    have fc22 : OArr Z T21.heap b0_64 .int (1 : Int32) [(.int (v0_11 p0 p1 p2 p3 p4))] (.int (0 : Int32)) := (fc20.keep u21_0 (ninS ne_b0_64_b0_70 nin0))
    refine OEnd.go (g' := (mkF m 242 (la0_37 p0 p1 p2 p3 p4 b0_64 b0_70) [(.int (f1_1 (v0_41 p0 p1 p2 p3 p4) (v0_11 p0 p1 p2 p3 p4)))])) st21 ?_
    refine OEnd.go (T' := T21) (g' := (mkF m 252 (la0_38 p0 p1 p2 p3 p4 b0_64 b0_70) [(.int (0 : Int32)), (.ref b0_70)])) (fun t k => ?_) ?_
    · show Steps p.tables e below (T21.setTop (mkF m 242 (la0_37 p0 p1 p2 p3 p4 b0_64 b0_70) [(.int (f1_1 (v0_41 p0 p1 p2 p3 p4) (v0_11 p0 p1 p2 p3 p4)))])) t
      refine XS.istore X21.here hx rfl (hb hby at_242) rfl (l' := (la0_38 p0 p1 p2 p3 p4 b0_64 b0_70)) rfl ?_
      show Steps p.tables e below (T21.setTop (mkF m 244 (la0_38 p0 p1 p2 p3 p4 b0_64 b0_70) [])) t
      refine XS.iload X21.here hx rfl (hb hby at_244) rfl ?_
      show Steps p.tables e below (T21.setTop (mkF m 246 (la0_38 p0 p1 p2 p3 p4 b0_64 b0_70) [(.int (1 : Int32))])) t
      refine XS.ifNo X21.here hx rfl (hb hby at_246) rfl ((if0 _ _).trans (tlt ((by decide))).2.2.2) ?_
      show Steps p.tables e below (T21.setTop (mkF m 249 (la0_38 p0 p1 p2 p3 p4 b0_64 b0_70) [])) t
      refine XS.aload X21.here hx rfl (hb hby at_249) rfl rfl ?_
      show Steps p.tables e below (T21.setTop (mkF m 251 (la0_38 p0 p1 p2 p3 p4 b0_64 b0_70) [(.ref b0_70)])) t
      refine XS.iconst X21.here hx rfl (hb hby at_251) ?_
      show Steps p.tables e below (T21.setTop (mkF m 252 (la0_38 p0 p1 p2 p3 p4 b0_64 b0_70) [(.int (0 : Int32)), (.ref b0_70)])) t
      exact k
    obtain ⟨kc23, cl23, Ar23, q23, S23, M23, H23, G23⟩ := id u21_1
    have hin23 : ¬ ((0 : Int32) < 0 ∨ cl23.slots.size ≤ ((0 : Int32)).toNatClampNeg) := inb_of S23 ⟨by decide, by decide⟩
    have hat23 : cl23.slots[((0 : Int32)).toNatClampNeg]? = some (.int (if ((v0_41 p0 p1 p2 p3 p4) + (1 : Int32)) < (v0_11 p0 p1 p2 p3 p4) then ((v0_41 p0 p1 p2 p3 p4) + (1 : Int32)) else (0 : Int32))) := Has.at H23 hin23 rfl
    refine OEnd.go (T' := T21) (g' := (mkF m 253 (la0_38 p0 p1 p2 p3 p4 b0_64 b0_70) [(.int (if ((v0_41 p0 p1 p2 p3 p4) + (1 : Int32)) < (v0_11 p0 p1 p2 p3 p4) then ((v0_41 p0 p1 p2 p3 p4) + (1 : Int32)) else (0 : Int32)))])) (fun t k => ?_) ?_
    · refine X21.iaload hx (j := (0 : Int32)) (v := (.int (if ((v0_41 p0 p1 p2 p3 p4) + (1 : Int32)) < (v0_11 p0 p1 p2 p3 p4) then ((v0_41 p0 p1 p2 p3 p4) + (1 : Int32)) else (0 : Int32)))) Ar23.1 (State.isArrayOf_alike hZ.alike Ar23.2.1) Ar23.2.2 hin23 hat23 (g := (mkF m 252 (la0_38 p0 p1 p2 p3 p4 b0_64 b0_70) [(.int (0 : Int32)), (.ref b0_70)])) rfl rfl (hb hby at_252) _ ?_
      exact k
    refine OEnd.go (T' := T21) (g' := (mkF m 295 (la0_41 p0 p1 p2 p3 p4 b0_64 b0_70) [(.int (v0_11 p0 p1 p2 p3 p4)), (.int (v0_257 p0 p1 p2 p3 p4))])) (fun t k => ?_) ?_
    · show Steps p.tables e below (T21.setTop (mkF m 253 (la0_38 p0 p1 p2 p3 p4 b0_64 b0_70) [(.int (if ((v0_41 p0 p1 p2 p3 p4) + (1 : Int32)) < (v0_11 p0 p1 p2 p3 p4) then ((v0_41 p0 p1 p2 p3 p4) + (1 : Int32)) else (0 : Int32)))])) t
      refine XS.goto X21.here hx rfl (pc0 := 253) (pc' := 257) rfl (hb hby at_253) (by decide) (by decide) ?_
      show Steps p.tables e below (T21.setTop (mkF m 257 (la0_38 p0 p1 p2 p3 p4 b0_64 b0_70) [(.int (if ((v0_41 p0 p1 p2 p3 p4) + (1 : Int32)) < (v0_11 p0 p1 p2 p3 p4) then ((v0_41 p0 p1 p2 p3 p4) + (1 : Int32)) else (0 : Int32)))])) t
      refine XS.istore X21.here hx rfl (hb hby at_257) rfl (l' := (la0_39 p0 p1 p2 p3 p4 b0_64 b0_70)) rfl ?_
      show Steps p.tables e below (T21.setTop (mkF m 259 (la0_39 p0 p1 p2 p3 p4 b0_64 b0_70) [])) t
      refine XS.iload X21.here hx rfl (hb hby at_259) rfl ?_
      show Steps p.tables e below (T21.setTop (mkF m 261 (la0_39 p0 p1 p2 p3 p4 b0_64 b0_70) [(.int (1 : Int32))])) t
      refine XS.iconst X21.here hx rfl (hb hby at_261) ?_
      show Steps p.tables e below (T21.setTop (mkF m 262 (la0_39 p0 p1 p2 p3 p4 b0_64 b0_70) [(.int (1 : Int32)), (.int (1 : Int32))])) t
      refine XS.icmpYes X21.here hx rfl (pc0 := 262) (pc' := 272) rfl (hb hby at_262) rfl (flt ((by decide))).2.2.2 (by decide) (by decide) ?_
      show Steps p.tables e below (T21.setTop (mkF m 272 (la0_39 p0 p1 p2 p3 p4 b0_64 b0_70) [])) t
      refine XS.iconst X21.here hx rfl (hb hby at_272) ?_
      show Steps p.tables e below (T21.setTop (mkF m 273 (la0_39 p0 p1 p2 p3 p4 b0_64 b0_70) [(.int (0 : Int32))])) t
      refine XS.istore X21.here hx rfl (hb hby at_273) rfl (l' := (la0_40 p0 p1 p2 p3 p4 b0_64 b0_70)) rfl ?_
      show Steps p.tables e below (T21.setTop (mkF m 275 (la0_40 p0 p1 p2 p3 p4 b0_64 b0_70) [])) t
      refine XS.iload X21.here hx rfl (hb hby at_275) rfl ?_
      show Steps p.tables e below (T21.setTop (mkF m 277 (la0_40 p0 p1 p2 p3 p4 b0_64 b0_70) [(.int (1 : Int32))])) t
      refine XS.iconst X21.here hx rfl (hb hby at_277) ?_
      show Steps p.tables e below (T21.setTop (mkF m 278 (la0_40 p0 p1 p2 p3 p4 b0_64 b0_70) [(.int (2 : Int32)), (.int (1 : Int32))])) t
      refine XS.icmpYes X21.here hx rfl (pc0 := 278) (pc' := 288) rfl (hb hby at_278) rfl (flt ((by decide))).2.2.2 (by decide) (by decide) ?_
      show Steps p.tables e below (T21.setTop (mkF m 288 (la0_40 p0 p1 p2 p3 p4 b0_64 b0_70) [])) t
      refine XS.iconst X21.here hx rfl (hb hby at_288) ?_
      show Steps p.tables e below (T21.setTop (mkF m 289 (la0_40 p0 p1 p2 p3 p4 b0_64 b0_70) [(.int (0 : Int32))])) t
      refine XS.istore X21.here hx rfl (hb hby at_289) rfl (l' := (la0_41 p0 p1 p2 p3 p4 b0_64 b0_70)) rfl ?_
      show Steps p.tables e below (T21.setTop (mkF m 291 (la0_41 p0 p1 p2 p3 p4 b0_64 b0_70) [])) t
      refine XS.iload X21.here hx rfl (hb hby at_291) rfl ?_
      show Steps p.tables e below (T21.setTop (mkF m 293 (la0_41 p0 p1 p2 p3 p4 b0_64 b0_70) [(.int (v0_257 p0 p1 p2 p3 p4))])) t
      refine XS.iload X21.here hx rfl (hb hby at_293) rfl ?_
      show Steps p.tables e below (T21.setTop (mkF m 295 (la0_41 p0 p1 p2 p3 p4 b0_64 b0_70) [(.int (v0_11 p0 p1 p2 p3 p4)), (.int (v0_257 p0 p1 p2 p3 p4))])) t
      exact k
    obtain ⟨_, _, ⟨T24, L24, k24, n24⟩, -, X24, ⟨Lc24, hQ24, l24, y24, z24⟩, st24⟩ := Jvm.LawKit.callS X21 hx (y := (⟨"com/example/assentor/assentor/check/OdometerAdvancePinLaw", "inRange", "(II)Z"⟩ : MethodName)) hown (mvT hZ (hw _ (List.mem_of_getElem? (i := 6) rfl))) (mvT hZ (hw _ (List.mem_of_getElem? (i := 7) rfl))) (mvT hZ (hw _ (List.mem_of_getElem? (i := 8) rfl))) (mvT hZ (hw _ (List.mem_of_getElem? (i := 9) rfl))) (by decide) (backOf (W := 0) (rm2 l Z aZ hw [] (v0_257 p0 p1 p2 p3 p4) (v0_11 p0 p1 p2 p3 p4) T21.heap n0 Z21 ) hZ (hw _ (List.mem_of_getElem? (i := 9) rfl)) (hw _ (List.mem_of_getElem? (i := 8) rfl)) (by decide) (by decide)) (g := (mkF m 295 (la0_41 p0 p1 p2 p3 p4 b0_64 b0_70) [(.int (v0_11 p0 p1 p2 p3 p4)), (.int (v0_257 p0 p1 p2 p3 p4))])) rfl (by rw [hml]; rfl) (argsL := [(.int (v0_257 p0 p1 p2 p3 p4)), (.int (v0_11 p0 p1 p2 p3 p4))]) (rest := []) (lenOf pd__II_Z rfl) rfl (by show 2 * 0 + _ ≤ _; exact Nat.le_of_eq rfl) (hb hby at_295) (fun _ _ => ⟨rfl, rfl, (by decide : 2 + 0 ≤ _), (by decide : 2 + 0 ≤ _)⟩)
    dsimp only [Pt.U, Pt.locs, Pt.cells, Pt.slots] at X24 l24 y24 z24 st24 hQ24
    subst l24 y24 z24
    obtain ⟨rfl, N24q, e24⟩ := hQ24
    have N24 := Fr.app N21 N24q
    refine OEnd.go (g' := (mkF m 298 (la0_41 p0 p1 p2 p3 p4 b0_64 b0_70) [(.int (f2 (v0_257 p0 p1 p2 p3 p4) (v0_11 p0 p1 p2 p3 p4)))])) st24 ?_
    obtain ⟨T26, L26, X26, e26, N26, st26⟩ : ORch p l e room_1 s m #[(.int p0), (.int p1), (.int p2), (.int p3), (.int p4)] below meth c n0 T24 (mkF m 298 (la0_41 p0 p1 p2 p3 p4 b0_64 b0_70) [(.int (f2 (v0_257 p0 p1 p2 p3 p4) (v0_11 p0 p1 p2 p3 p4)))]) T21.heap (mkF m 326 (la0_41 p0 p1 p2 p3 p4 b0_64 b0_70) [(.int (if (f2 (v0_257 p0 p1 p2 p3 p4) (v0_11 p0 p1 p2 p3 p4)) = (0 : Int32) then (0 : Int32) else (if (f2 (0 : Int32) (1 : Int32)) = (0 : Int32) then (0 : Int32) else (1 : Int32))))]) 2 2 := by
      by_cases hc25 : (f2 (v0_257 p0 p1 p2 p3 p4) (v0_11 p0 p1 p2 p3 p4)) = (0 : Int32)
      · skip
        refine ORch.go (T' := T24) (g' := (mkF m 325 (la0_41 p0 p1 p2 p3 p4 b0_64 b0_70) [])) (fun t k => ?_) ?_
        · show Steps p.tables e below (T24.setTop (mkF m 298 (la0_41 p0 p1 p2 p3 p4 b0_64 b0_70) [(.int (f2 (v0_257 p0 p1 p2 p3 p4) (v0_11 p0 p1 p2 p3 p4)))])) t
          refine XS.ifYes X24.here hx rfl (pc0 := 298) (pc' := 325) rfl (hb hby at_298) rfl ((if0 _ _).trans (teq (hc25)).1) (by decide) (by decide) ?_
          show Steps p.tables e below (T24.setTop (mkF m 325 (la0_41 p0 p1 p2 p3 p4 b0_64 b0_70) [])) t
          exact k
        refine ORch.go (T' := T24) (g' := (mkF m 326 (la0_41 p0 p1 p2 p3 p4 b0_64 b0_70) [(.int (0 : Int32))])) (fun t k => ?_) ?_
        · show Steps p.tables e below (T24.setTop (mkF m 325 (la0_41 p0 p1 p2 p3 p4 b0_64 b0_70) [])) t
          refine XS.iconst X24.here hx rfl (hb hby at_325) ?_
          show Steps p.tables e below (T24.setTop (mkF m 326 (la0_41 p0 p1 p2 p3 p4 b0_64 b0_70) [(.int (0 : Int32))])) t
          exact k
        exact ⟨_, _, X24, e24, N24, fun t k => (own_k (f := fun (z : Int32) => mkF m 326 #[.val (.int p0), .val (.int p1), .val (.int p2), .val (.int p3), .val (.int p4), .val (.int (1 : Int32)), .val (.int (v0_11 p0 p1 p2 p3 p4)), .val (.int (v0_21 p0 p1 p2 p3 p4)), .val (.int (v0_32 p0 p1 p2 p3 p4)), .val (.int (v0_41 p0 p1 p2 p3 p4)), .val (.int (v0_50 p0 p1 p2 p3 p4)), .val (.int (v0_60 p0 p1 p2 p3 p4)), .val (.ref b0_64), .val (.ref b0_70), .val (.int (v0_11 p0 p1 p2 p3 p4)), .val (.int (1 : Int32)), .val (.int (1 : Int32)), .val (.int (v0_41 p0 p1 p2 p3 p4)), .val (.int (0 : Int32)), .val (.int (0 : Int32)), .val (.int (v0_217 p0 p1 p2 p3 p4)), .val (.int (v0_233 p0 p1 p2 p3 p4)), .val (.int (v0_242 p0 p1 p2 p3 p4)), .val (.int (v0_257 p0 p1 p2 p3 p4)), .val (.int (0 : Int32)), .val (.int (0 : Int32)), .unset, .unset, .unset, .unset, .unset] [(.int z)]) (if_pos hc25) k)⟩
      · skip
        refine ORch.go (T' := T24) (g' := (mkF m 301 (la0_41 p0 p1 p2 p3 p4 b0_64 b0_70) [])) (fun t k => ?_) ?_
        · show Steps p.tables e below (T24.setTop (mkF m 298 (la0_41 p0 p1 p2 p3 p4 b0_64 b0_70) [(.int (f2 (v0_257 p0 p1 p2 p3 p4) (v0_11 p0 p1 p2 p3 p4)))])) t
          refine XS.ifNo X24.here hx rfl (hb hby at_298) rfl ((if0 _ _).trans (feq (hc25)).1) ?_
          show Steps p.tables e below (T24.setTop (mkF m 301 (la0_41 p0 p1 p2 p3 p4 b0_64 b0_70) [])) t
          exact k
        refine ORch.go (T' := T24) (g' := (mkF m 305 (la0_41 p0 p1 p2 p3 p4 b0_64 b0_70) [(.int (1 : Int32)), (.int (0 : Int32))])) (fun t k => ?_) ?_
        · show Steps p.tables e below (T24.setTop (mkF m 301 (la0_41 p0 p1 p2 p3 p4 b0_64 b0_70) [])) t
          refine XS.iload X24.here hx rfl (hb hby at_301) rfl ?_
          show Steps p.tables e below (T24.setTop (mkF m 303 (la0_41 p0 p1 p2 p3 p4 b0_64 b0_70) [(.int (0 : Int32))])) t
          refine XS.iload X24.here hx rfl (hb hby at_303) rfl ?_
          show Steps p.tables e below (T24.setTop (mkF m 305 (la0_41 p0 p1 p2 p3 p4 b0_64 b0_70) [(.int (1 : Int32)), (.int (0 : Int32))])) t
          exact k
        obtain ⟨_, _, ⟨T27, L27, k27, n27⟩, -, X27, ⟨Lc27, hQ27, l27, y27, z27⟩, st27⟩ := Jvm.LawKit.callS X24 hx (y := (⟨"com/example/assentor/assentor/check/OdometerAdvancePinLaw", "inRange", "(II)Z"⟩ : MethodName)) hown (mvT hZ (hw _ (List.mem_of_getElem? (i := 6) rfl))) (mvT hZ (hw _ (List.mem_of_getElem? (i := 7) rfl))) (mvT hZ (hw _ (List.mem_of_getElem? (i := 8) rfl))) (mvT hZ (hw _ (List.mem_of_getElem? (i := 9) rfl))) (by decide) (backOf (W := 0) (rm2 l Z aZ hw [] (0 : Int32) (1 : Int32) T21.heap n0 Z21 ) hZ (hw _ (List.mem_of_getElem? (i := 9) rfl)) (hw _ (List.mem_of_getElem? (i := 8) rfl)) (by decide) (by decide)) (g := (mkF m 305 (la0_41 p0 p1 p2 p3 p4 b0_64 b0_70) [(.int (1 : Int32)), (.int (0 : Int32))])) rfl (by rw [hml]; rfl) (argsL := [(.int (0 : Int32)), (.int (1 : Int32))]) (rest := []) (lenOf pd__II_Z rfl) rfl (by show 2 * 0 + _ ≤ _; exact Nat.le_of_eq rfl) (hb hby at_305) (fun _ _ => ⟨rfl, e24, (by decide : 2 + 0 ≤ _), (by decide : 2 + 0 ≤ _)⟩)
        dsimp only [Pt.U, Pt.locs, Pt.cells, Pt.slots] at X27 l27 y27 z27 st27 hQ27
        subst l27 y27 z27
        obtain ⟨rfl, N27q, e27⟩ := hQ27
        have N27 := Fr.app N24 N27q
        refine ORch.go (g' := (mkF m 308 (la0_41 p0 p1 p2 p3 p4 b0_64 b0_70) [(.int (f2 (0 : Int32) (1 : Int32)))])) st27 ?_
        by_cases hc28 : (f2 (0 : Int32) (1 : Int32)) = (0 : Int32)
        · skip
          refine ORch.go (T' := T27) (g' := (mkF m 325 (la0_41 p0 p1 p2 p3 p4 b0_64 b0_70) [])) (fun t k => ?_) ?_
          · show Steps p.tables e below (T27.setTop (mkF m 308 (la0_41 p0 p1 p2 p3 p4 b0_64 b0_70) [(.int (f2 (0 : Int32) (1 : Int32)))])) t
            refine XS.ifYes X27.here hx rfl (pc0 := 308) (pc' := 325) rfl (hb hby at_308) rfl ((if0 _ _).trans (teq (hc28)).1) (by decide) (by decide) ?_
            show Steps p.tables e below (T27.setTop (mkF m 325 (la0_41 p0 p1 p2 p3 p4 b0_64 b0_70) [])) t
            exact k
          refine ORch.go (T' := T27) (g' := (mkF m 326 (la0_41 p0 p1 p2 p3 p4 b0_64 b0_70) [(.int (0 : Int32))])) (fun t k => ?_) ?_
          · show Steps p.tables e below (T27.setTop (mkF m 325 (la0_41 p0 p1 p2 p3 p4 b0_64 b0_70) [])) t
            refine XS.iconst X27.here hx rfl (hb hby at_325) ?_
            show Steps p.tables e below (T27.setTop (mkF m 326 (la0_41 p0 p1 p2 p3 p4 b0_64 b0_70) [(.int (0 : Int32))])) t
            exact k
          exact ⟨_, _, X27, e27, N27, fun t k => (own_k (f := fun (z : Int32) => mkF m 326 #[.val (.int p0), .val (.int p1), .val (.int p2), .val (.int p3), .val (.int p4), .val (.int (1 : Int32)), .val (.int (v0_11 p0 p1 p2 p3 p4)), .val (.int (v0_21 p0 p1 p2 p3 p4)), .val (.int (v0_32 p0 p1 p2 p3 p4)), .val (.int (v0_41 p0 p1 p2 p3 p4)), .val (.int (v0_50 p0 p1 p2 p3 p4)), .val (.int (v0_60 p0 p1 p2 p3 p4)), .val (.ref b0_64), .val (.ref b0_70), .val (.int (v0_11 p0 p1 p2 p3 p4)), .val (.int (1 : Int32)), .val (.int (1 : Int32)), .val (.int (v0_41 p0 p1 p2 p3 p4)), .val (.int (0 : Int32)), .val (.int (0 : Int32)), .val (.int (v0_217 p0 p1 p2 p3 p4)), .val (.int (v0_233 p0 p1 p2 p3 p4)), .val (.int (v0_242 p0 p1 p2 p3 p4)), .val (.int (v0_257 p0 p1 p2 p3 p4)), .val (.int (0 : Int32)), .val (.int (0 : Int32)), .unset, .unset, .unset, .unset, .unset] [(.int z)]) ((if_neg hc25).trans (if_pos hc28)) k)⟩
        · skip
          refine ORch.go (T' := T27) (g' := (mkF m 311 (la0_41 p0 p1 p2 p3 p4 b0_64 b0_70) [])) (fun t k => ?_) ?_
          · show Steps p.tables e below (T27.setTop (mkF m 308 (la0_41 p0 p1 p2 p3 p4 b0_64 b0_70) [(.int (f2 (0 : Int32) (1 : Int32)))])) t
            refine XS.ifNo X27.here hx rfl (hb hby at_308) rfl ((if0 _ _).trans (feq (hc28)).1) ?_
            show Steps p.tables e below (T27.setTop (mkF m 311 (la0_41 p0 p1 p2 p3 p4 b0_64 b0_70) [])) t
            exact k
          refine ORch.go (T' := T27) (g' := (mkF m 315 (la0_41 p0 p1 p2 p3 p4 b0_64 b0_70) [(.int (1 : Int32)), (.int (0 : Int32))])) (fun t k => ?_) ?_
          · show Steps p.tables e below (T27.setTop (mkF m 311 (la0_41 p0 p1 p2 p3 p4 b0_64 b0_70) [])) t
            refine XS.iload X27.here hx rfl (hb hby at_311) rfl ?_
            show Steps p.tables e below (T27.setTop (mkF m 313 (la0_41 p0 p1 p2 p3 p4 b0_64 b0_70) [(.int (0 : Int32))])) t
            refine XS.iload X27.here hx rfl (hb hby at_313) rfl ?_
            show Steps p.tables e below (T27.setTop (mkF m 315 (la0_41 p0 p1 p2 p3 p4 b0_64 b0_70) [(.int (1 : Int32)), (.int (0 : Int32))])) t
            exact k
          obtain ⟨_, _, ⟨T29, L29, k29, n29⟩, -, X29, ⟨Lc29, hQ29, l29, y29, z29⟩, st29⟩ := Jvm.LawKit.callS X27 hx (y := (⟨"com/example/assentor/assentor/check/OdometerAdvancePinLaw", "inRange", "(II)Z"⟩ : MethodName)) hown (mvT hZ (hw _ (List.mem_of_getElem? (i := 6) rfl))) (mvT hZ (hw _ (List.mem_of_getElem? (i := 7) rfl))) (mvT hZ (hw _ (List.mem_of_getElem? (i := 8) rfl))) (mvT hZ (hw _ (List.mem_of_getElem? (i := 9) rfl))) (by decide) (backOf (W := 0) (rm2 l Z aZ hw [] (0 : Int32) (1 : Int32) T21.heap n0 Z21 ) hZ (hw _ (List.mem_of_getElem? (i := 9) rfl)) (hw _ (List.mem_of_getElem? (i := 8) rfl)) (by decide) (by decide)) (g := (mkF m 315 (la0_41 p0 p1 p2 p3 p4 b0_64 b0_70) [(.int (1 : Int32)), (.int (0 : Int32))])) rfl (by rw [hml]; rfl) (argsL := [(.int (0 : Int32)), (.int (1 : Int32))]) (rest := []) (lenOf pd__II_Z rfl) rfl (by show 2 * 0 + _ ≤ _; exact Nat.le_of_eq rfl) (hb hby at_315) (fun _ _ => ⟨rfl, e27, (by decide : 2 + 0 ≤ _), (by decide : 2 + 0 ≤ _)⟩)
          dsimp only [Pt.U, Pt.locs, Pt.cells, Pt.slots] at X29 l29 y29 z29 st29 hQ29
          subst l29 y29 z29
          obtain ⟨rfl, N29q, e29⟩ := hQ29
          have N29 := Fr.app N27 N29q
          refine ORch.go (g' := (mkF m 318 (la0_41 p0 p1 p2 p3 p4 b0_64 b0_70) [(.int (f2 (0 : Int32) (1 : Int32)))])) st29 ?_
          refine ORch.go (T' := T29) (g' := (mkF m 326 (la0_41 p0 p1 p2 p3 p4 b0_64 b0_70) [(.int (1 : Int32))])) (fun t k => ?_) ?_
          · show Steps p.tables e below (T29.setTop (mkF m 318 (la0_41 p0 p1 p2 p3 p4 b0_64 b0_70) [(.int (f2 (0 : Int32) (1 : Int32)))])) t
            refine XS.ifNo X29.here hx rfl (hb hby at_318) rfl ((if0 _ _).trans (feq (hc28)).1) ?_
            show Steps p.tables e below (T29.setTop (mkF m 321 (la0_41 p0 p1 p2 p3 p4 b0_64 b0_70) [])) t
            refine XS.iconst X29.here hx rfl (hb hby at_321) ?_
            show Steps p.tables e below (T29.setTop (mkF m 322 (la0_41 p0 p1 p2 p3 p4 b0_64 b0_70) [(.int (1 : Int32))])) t
            refine XS.goto X29.here hx rfl (pc0 := 322) (pc' := 326) rfl (hb hby at_322) (by decide) (by decide) ?_
            show Steps p.tables e below (T29.setTop (mkF m 326 (la0_41 p0 p1 p2 p3 p4 b0_64 b0_70) [(.int (1 : Int32))])) t
            exact k
          exact ⟨_, _, X29, e29, N29, fun t k => (own_k (f := fun (z : Int32) => mkF m 326 #[.val (.int p0), .val (.int p1), .val (.int p2), .val (.int p3), .val (.int p4), .val (.int (1 : Int32)), .val (.int (v0_11 p0 p1 p2 p3 p4)), .val (.int (v0_21 p0 p1 p2 p3 p4)), .val (.int (v0_32 p0 p1 p2 p3 p4)), .val (.int (v0_41 p0 p1 p2 p3 p4)), .val (.int (v0_50 p0 p1 p2 p3 p4)), .val (.int (v0_60 p0 p1 p2 p3 p4)), .val (.ref b0_64), .val (.ref b0_70), .val (.int (v0_11 p0 p1 p2 p3 p4)), .val (.int (1 : Int32)), .val (.int (1 : Int32)), .val (.int (v0_41 p0 p1 p2 p3 p4)), .val (.int (0 : Int32)), .val (.int (0 : Int32)), .val (.int (v0_217 p0 p1 p2 p3 p4)), .val (.int (v0_233 p0 p1 p2 p3 p4)), .val (.int (v0_242 p0 p1 p2 p3 p4)), .val (.int (v0_257 p0 p1 p2 p3 p4)), .val (.int (0 : Int32)), .val (.int (0 : Int32)), .unset, .unset, .unset, .unset, .unset] [(.int z)]) ((if_neg hc25).trans (if_neg hc28)) k)⟩
    refine OEnd.go (g' := (mkF m 326 (la0_41 p0 p1 p2 p3 p4 b0_64 b0_70) [(.int (if (f2 (v0_257 p0 p1 p2 p3 p4) (v0_11 p0 p1 p2 p3 p4)) = (0 : Int32) then (0 : Int32) else (if (f2 (0 : Int32) (1 : Int32)) = (0 : Int32) then (0 : Int32) else (1 : Int32))))])) st26 ?_
    refine OEnd.go (T' := T26) (g' := (mkF m 336 (la0_42 p0 p1 p2 p3 p4 b0_64 b0_70) [(.int (0 : Int32)), (.ref b0_64)])) (fun t k => ?_) ?_
    · show Steps p.tables e below (T26.setTop (mkF m 326 (la0_41 p0 p1 p2 p3 p4 b0_64 b0_70) [(.int (if (f2 (v0_257 p0 p1 p2 p3 p4) (v0_11 p0 p1 p2 p3 p4)) = (0 : Int32) then (0 : Int32) else (if (f2 (0 : Int32) (1 : Int32)) = (0 : Int32) then (0 : Int32) else (1 : Int32))))])) t
      refine XS.istore X26.here hx rfl (hb hby at_326) rfl (l' := (la0_42 p0 p1 p2 p3 p4 b0_64 b0_70)) rfl ?_
      show Steps p.tables e below (T26.setTop (mkF m 328 (la0_42 p0 p1 p2 p3 p4 b0_64 b0_70) [])) t
      refine XS.iload X26.here hx rfl (hb hby at_328) rfl ?_
      show Steps p.tables e below (T26.setTop (mkF m 330 (la0_42 p0 p1 p2 p3 p4 b0_64 b0_70) [(.int (1 : Int32))])) t
      refine XS.ifNo X26.here hx rfl (hb hby at_330) rfl ((if0 _ _).trans (tlt ((by decide))).2.2.2) ?_
      show Steps p.tables e below (T26.setTop (mkF m 333 (la0_42 p0 p1 p2 p3 p4 b0_64 b0_70) [])) t
      refine XS.aload X26.here hx rfl (hb hby at_333) rfl rfl ?_
      show Steps p.tables e below (T26.setTop (mkF m 335 (la0_42 p0 p1 p2 p3 p4 b0_64 b0_70) [(.ref b0_64)])) t
      refine XS.iconst X26.here hx rfl (hb hby at_335) ?_
      show Steps p.tables e below (T26.setTop (mkF m 336 (la0_42 p0 p1 p2 p3 p4 b0_64 b0_70) [(.int (0 : Int32)), (.ref b0_64)])) t
      exact k
    obtain ⟨kc30, cl30, Ar30, q30, S30, M30, H30, G30⟩ := id fc22
    have hin30 : ¬ ((0 : Int32) < 0 ∨ cl30.slots.size ≤ ((0 : Int32)).toNatClampNeg) := inb_of S30 ⟨by decide, by decide⟩
    have hat30 : cl30.slots[((0 : Int32)).toNatClampNeg]? = some (.int (v0_11 p0 p1 p2 p3 p4)) := Has.at H30 hin30 rfl
    refine OEnd.go (T' := T26) (g' := (mkF m 337 (la0_42 p0 p1 p2 p3 p4 b0_64 b0_70) [(.int (v0_11 p0 p1 p2 p3 p4))])) (fun t k => ?_) ?_
    · refine X26.iaload hx (j := (0 : Int32)) (v := (.int (v0_11 p0 p1 p2 p3 p4))) (by rw [e26]; exact Ar30.1) (State.isArrayOf_alike hZ.alike Ar30.2.1) Ar30.2.2 hin30 hat30 (g := (mkF m 336 (la0_42 p0 p1 p2 p3 p4 b0_64 b0_70) [(.int (0 : Int32)), (.ref b0_64)])) rfl rfl (hb hby at_336) _ ?_
      exact k
    refine OEnd.go (T' := T26) (g' := (mkF m 339 (la0_42 p0 p1 p2 p3 p4 b0_64 b0_70) [(.int (v0_11 p0 p1 p2 p3 p4)), (.int (v0_11 p0 p1 p2 p3 p4))])) (fun t k => ?_) ?_
    · show Steps p.tables e below (T26.setTop (mkF m 337 (la0_42 p0 p1 p2 p3 p4 b0_64 b0_70) [(.int (v0_11 p0 p1 p2 p3 p4))])) t
      refine XS.iload X26.here hx rfl (hb hby at_337) rfl ?_
      show Steps p.tables e below (T26.setTop (mkF m 339 (la0_42 p0 p1 p2 p3 p4 b0_64 b0_70) [(.int (v0_11 p0 p1 p2 p3 p4)), (.int (v0_11 p0 p1 p2 p3 p4))])) t
      exact k
    obtain ⟨T32, L32, X32, e32, N32, st32⟩ : ORch p l e room_1 s m #[(.int p0), (.int p1), (.int p2), (.int p3), (.int p4)] below meth c n0 T26 (mkF m 339 (la0_42 p0 p1 p2 p3 p4 b0_64 b0_70) [(.int (v0_11 p0 p1 p2 p3 p4)), (.int (v0_11 p0 p1 p2 p3 p4))]) T21.heap (mkF m 377 (la0_42 p0 p1 p2 p3 p4 b0_64 b0_70) [(.int (if (v0_11 p0 p1 p2 p3 p4) = (v0_11 p0 p1 p2 p3 p4) then (1 : Int32) else (0 : Int32)))]) 2 2 := by
      by_cases hc31 : (v0_11 p0 p1 p2 p3 p4) = (v0_11 p0 p1 p2 p3 p4)
      · skip
        refine ORch.go (T' := T26) (g' := (mkF m 342 (la0_42 p0 p1 p2 p3 p4 b0_64 b0_70) [])) (fun t k => ?_) ?_
        · show Steps p.tables e below (T26.setTop (mkF m 339 (la0_42 p0 p1 p2 p3 p4 b0_64 b0_70) [(.int (v0_11 p0 p1 p2 p3 p4)), (.int (v0_11 p0 p1 p2 p3 p4))])) t
          refine XS.icmpNo X26.here hx rfl (hb hby at_339) rfl (teq (hc31)).2 ?_
          show Steps p.tables e below (T26.setTop (mkF m 342 (la0_42 p0 p1 p2 p3 p4 b0_64 b0_70) [])) t
          exact k
        refine ORch.go (T' := T26) (g' := (mkF m 377 (la0_42 p0 p1 p2 p3 p4 b0_64 b0_70) [(.int (1 : Int32))])) (fun t k => ?_) ?_
        · show Steps p.tables e below (T26.setTop (mkF m 342 (la0_42 p0 p1 p2 p3 p4 b0_64 b0_70) [])) t
          refine XS.iload X26.here hx rfl (hb hby at_342) rfl ?_
          show Steps p.tables e below (T26.setTop (mkF m 344 (la0_42 p0 p1 p2 p3 p4 b0_64 b0_70) [(.int (1 : Int32))])) t
          refine XS.iconst X26.here hx rfl (hb hby at_344) ?_
          show Steps p.tables e below (T26.setTop (mkF m 345 (la0_42 p0 p1 p2 p3 p4 b0_64 b0_70) [(.int (1 : Int32)), (.int (1 : Int32))])) t
          refine XS.icmpYes X26.here hx rfl (pc0 := 345) (pc' := 357) rfl (hb hby at_345) rfl (flt ((by decide))).2.2.2 (by decide) (by decide) ?_
          show Steps p.tables e below (T26.setTop (mkF m 357 (la0_42 p0 p1 p2 p3 p4 b0_64 b0_70) [])) t
          refine XS.iload X26.here hx rfl (hb hby at_357) rfl ?_
          show Steps p.tables e below (T26.setTop (mkF m 359 (la0_42 p0 p1 p2 p3 p4 b0_64 b0_70) [(.int (1 : Int32))])) t
          refine XS.iconst X26.here hx rfl (hb hby at_359) ?_
          show Steps p.tables e below (T26.setTop (mkF m 360 (la0_42 p0 p1 p2 p3 p4 b0_64 b0_70) [(.int (2 : Int32)), (.int (1 : Int32))])) t
          refine XS.icmpYes X26.here hx rfl (pc0 := 360) (pc' := 372) rfl (hb hby at_360) rfl (flt ((by decide))).2.2.2 (by decide) (by decide) ?_
          show Steps p.tables e below (T26.setTop (mkF m 372 (la0_42 p0 p1 p2 p3 p4 b0_64 b0_70) [])) t
          refine XS.iconst X26.here hx rfl (hb hby at_372) ?_
          show Steps p.tables e below (T26.setTop (mkF m 373 (la0_42 p0 p1 p2 p3 p4 b0_64 b0_70) [(.int (1 : Int32))])) t
          refine XS.goto X26.here hx rfl (pc0 := 373) (pc' := 377) rfl (hb hby at_373) (by decide) (by decide) ?_
          show Steps p.tables e below (T26.setTop (mkF m 377 (la0_42 p0 p1 p2 p3 p4 b0_64 b0_70) [(.int (1 : Int32))])) t
          exact k
        exact ⟨_, _, X26, e26, N26, fun t k => (own_k (f := fun (z : Int32) => mkF m 377 #[.val (.int p0), .val (.int p1), .val (.int p2), .val (.int p3), .val (.int p4), .val (.int (1 : Int32)), .val (.int (v0_11 p0 p1 p2 p3 p4)), .val (.int (v0_21 p0 p1 p2 p3 p4)), .val (.int (v0_32 p0 p1 p2 p3 p4)), .val (.int (v0_41 p0 p1 p2 p3 p4)), .val (.int (v0_50 p0 p1 p2 p3 p4)), .val (.int (v0_60 p0 p1 p2 p3 p4)), .val (.ref b0_64), .val (.ref b0_70), .val (.int (v0_11 p0 p1 p2 p3 p4)), .val (.int (1 : Int32)), .val (.int (1 : Int32)), .val (.int (v0_41 p0 p1 p2 p3 p4)), .val (.int (0 : Int32)), .val (.int (0 : Int32)), .val (.int (v0_217 p0 p1 p2 p3 p4)), .val (.int (v0_233 p0 p1 p2 p3 p4)), .val (.int (v0_242 p0 p1 p2 p3 p4)), .val (.int (v0_257 p0 p1 p2 p3 p4)), .val (.int (0 : Int32)), .val (.int (0 : Int32)), .val (.int (v0_326x p0 p1 p2 p3 p4)), .unset, .unset, .unset, .unset] [(.int z)]) (if_pos hc31) k)⟩
      · skip
        refine ORch.go (T' := T26) (g' := (mkF m 376 (la0_42 p0 p1 p2 p3 p4 b0_64 b0_70) [])) (fun t k => ?_) ?_
        · show Steps p.tables e below (T26.setTop (mkF m 339 (la0_42 p0 p1 p2 p3 p4 b0_64 b0_70) [(.int (v0_11 p0 p1 p2 p3 p4)), (.int (v0_11 p0 p1 p2 p3 p4))])) t
          refine XS.icmpYes X26.here hx rfl (pc0 := 339) (pc' := 376) rfl (hb hby at_339) rfl (feq (hc31)).2 (by decide) (by decide) ?_
          show Steps p.tables e below (T26.setTop (mkF m 376 (la0_42 p0 p1 p2 p3 p4 b0_64 b0_70) [])) t
          exact k
        refine ORch.go (T' := T26) (g' := (mkF m 377 (la0_42 p0 p1 p2 p3 p4 b0_64 b0_70) [(.int (0 : Int32))])) (fun t k => ?_) ?_
        · show Steps p.tables e below (T26.setTop (mkF m 376 (la0_42 p0 p1 p2 p3 p4 b0_64 b0_70) [])) t
          refine XS.iconst X26.here hx rfl (hb hby at_376) ?_
          show Steps p.tables e below (T26.setTop (mkF m 377 (la0_42 p0 p1 p2 p3 p4 b0_64 b0_70) [(.int (0 : Int32))])) t
          exact k
        exact ⟨_, _, X26, e26, N26, fun t k => (own_k (f := fun (z : Int32) => mkF m 377 #[.val (.int p0), .val (.int p1), .val (.int p2), .val (.int p3), .val (.int p4), .val (.int (1 : Int32)), .val (.int (v0_11 p0 p1 p2 p3 p4)), .val (.int (v0_21 p0 p1 p2 p3 p4)), .val (.int (v0_32 p0 p1 p2 p3 p4)), .val (.int (v0_41 p0 p1 p2 p3 p4)), .val (.int (v0_50 p0 p1 p2 p3 p4)), .val (.int (v0_60 p0 p1 p2 p3 p4)), .val (.ref b0_64), .val (.ref b0_70), .val (.int (v0_11 p0 p1 p2 p3 p4)), .val (.int (1 : Int32)), .val (.int (1 : Int32)), .val (.int (v0_41 p0 p1 p2 p3 p4)), .val (.int (0 : Int32)), .val (.int (0 : Int32)), .val (.int (v0_217 p0 p1 p2 p3 p4)), .val (.int (v0_233 p0 p1 p2 p3 p4)), .val (.int (v0_242 p0 p1 p2 p3 p4)), .val (.int (v0_257 p0 p1 p2 p3 p4)), .val (.int (0 : Int32)), .val (.int (0 : Int32)), .val (.int (v0_326x p0 p1 p2 p3 p4)), .unset, .unset, .unset, .unset] [(.int z)]) (if_neg hc31) k)⟩
    refine OEnd.go (g' := (mkF m 377 (la0_42 p0 p1 p2 p3 p4 b0_64 b0_70) [(.int (if (v0_11 p0 p1 p2 p3 p4) = (v0_11 p0 p1 p2 p3 p4) then (1 : Int32) else (0 : Int32)))])) st32 ?_
    refine OEnd.go (T' := T32) (g' := (mkF m 401 (la0_44 p0 p1 p2 p3 p4 b0_64 b0_70) [(.int (v0_217 p0 p1 p2 p3 p4)), (.int ((v0_233 p0 p1 p2 p3 p4) + (1 : Int32)))])) (fun t k => ?_) ?_
    · show Steps p.tables e below (T32.setTop (mkF m 377 (la0_42 p0 p1 p2 p3 p4 b0_64 b0_70) [(.int (if (v0_11 p0 p1 p2 p3 p4) = (v0_11 p0 p1 p2 p3 p4) then (1 : Int32) else (0 : Int32)))])) t
      refine XS.istore X32.here hx rfl (hb hby at_377) rfl (l' := (la0_43 p0 p1 p2 p3 p4 b0_64 b0_70)) rfl ?_
      show Steps p.tables e below (T32.setTop (mkF m 379 (la0_43 p0 p1 p2 p3 p4 b0_64 b0_70) [])) t
      refine XS.iload X32.here hx rfl (hb hby at_379) rfl ?_
      show Steps p.tables e below (T32.setTop (mkF m 381 (la0_43 p0 p1 p2 p3 p4 b0_64 b0_70) [(.int (v0_257 p0 p1 p2 p3 p4))])) t
      refine XS.iload X32.here hx rfl (hb hby at_381) rfl ?_
      show Steps p.tables e below (T32.setTop (mkF m 383 (la0_43 p0 p1 p2 p3 p4 b0_64 b0_70) [(.int (v0_11 p0 p1 p2 p3 p4)), (.int (v0_257 p0 p1 p2 p3 p4))])) t
      refine XS.iload X32.here hx rfl (hb hby at_383) rfl ?_
      show Steps p.tables e below (T32.setTop (mkF m 385 (la0_43 p0 p1 p2 p3 p4 b0_64 b0_70) [(.int (0 : Int32)), (.int (v0_11 p0 p1 p2 p3 p4)), (.int (v0_257 p0 p1 p2 p3 p4))])) t
      refine XS.iload X32.here hx rfl (hb hby at_385) rfl ?_
      show Steps p.tables e below (T32.setTop (mkF m 387 (la0_43 p0 p1 p2 p3 p4 b0_64 b0_70) [(.int (1 : Int32)), (.int (0 : Int32)), (.int (v0_11 p0 p1 p2 p3 p4)), (.int (v0_257 p0 p1 p2 p3 p4))])) t
      refine XS.iload X32.here hx rfl (hb hby at_387) rfl ?_
      show Steps p.tables e below (T32.setTop (mkF m 389 (la0_43 p0 p1 p2 p3 p4 b0_64 b0_70) [(.int (0 : Int32)), (.int (1 : Int32)), (.int (0 : Int32)), (.int (v0_11 p0 p1 p2 p3 p4)), (.int (v0_257 p0 p1 p2 p3 p4))])) t
      refine XS.imul X32.here hx rfl (hb hby at_389) rfl ?_
      show Steps p.tables e below (T32.setTop (mkF m 390 (la0_43 p0 p1 p2 p3 p4 b0_64 b0_70) [(.int (0 : Int32)), (.int (0 : Int32)), (.int (v0_11 p0 p1 p2 p3 p4)), (.int (v0_257 p0 p1 p2 p3 p4))])) t
      refine XS.iadd X32.here hx rfl (hb hby at_390) rfl ?_
      show Steps p.tables e below (T32.setTop (mkF m 391 (la0_43 p0 p1 p2 p3 p4 b0_64 b0_70) [(.int (0 : Int32)), (.int (v0_11 p0 p1 p2 p3 p4)), (.int (v0_257 p0 p1 p2 p3 p4))])) t
      refine XS.imul X32.here hx rfl (hb hby at_391) rfl ?_
      show Steps p.tables e below (T32.setTop (mkF m 392 (la0_43 p0 p1 p2 p3 p4 b0_64 b0_70) [(.int ((v0_11 p0 p1 p2 p3 p4) * (0 : Int32))), (.int (v0_257 p0 p1 p2 p3 p4))])) t
      refine XS.iadd X32.here hx rfl (hb hby at_392) rfl ?_
      show Steps p.tables e below (T32.setTop (mkF m 393 (la0_43 p0 p1 p2 p3 p4 b0_64 b0_70) [(.int ((v0_257 p0 p1 p2 p3 p4) + ((v0_11 p0 p1 p2 p3 p4) * (0 : Int32))))])) t
      refine XS.istore X32.here hx rfl (hb hby at_393) rfl (l' := (la0_44 p0 p1 p2 p3 p4 b0_64 b0_70)) rfl ?_
      show Steps p.tables e below (T32.setTop (mkF m 395 (la0_44 p0 p1 p2 p3 p4 b0_64 b0_70) [])) t
      refine XS.iload X32.here hx rfl (hb hby at_395) rfl ?_
      show Steps p.tables e below (T32.setTop (mkF m 397 (la0_44 p0 p1 p2 p3 p4 b0_64 b0_70) [(.int (v0_233 p0 p1 p2 p3 p4))])) t
      refine XS.iconst X32.here hx rfl (hb hby at_397) ?_
      show Steps p.tables e below (T32.setTop (mkF m 398 (la0_44 p0 p1 p2 p3 p4 b0_64 b0_70) [(.int (1 : Int32)), (.int (v0_233 p0 p1 p2 p3 p4))])) t
      refine XS.iadd X32.here hx rfl (hb hby at_398) rfl ?_
      show Steps p.tables e below (T32.setTop (mkF m 399 (la0_44 p0 p1 p2 p3 p4 b0_64 b0_70) [(.int ((v0_233 p0 p1 p2 p3 p4) + (1 : Int32)))])) t
      refine XS.iload X32.here hx rfl (hb hby at_399) rfl ?_
      show Steps p.tables e below (T32.setTop (mkF m 401 (la0_44 p0 p1 p2 p3 p4 b0_64 b0_70) [(.int (v0_217 p0 p1 p2 p3 p4)), (.int ((v0_233 p0 p1 p2 p3 p4) + (1 : Int32)))])) t
      exact k
    refine OEnd.go (T' := T32) (g' := (mkF m 409 (la0_44 p0 p1 p2 p3 p4 b0_64 b0_70) [(.int (if ((v0_233 p0 p1 p2 p3 p4) + (1 : Int32)) = (v0_217 p0 p1 p2 p3 p4) then (1 : Int32) else (0 : Int32)))])) (fun t k => ?_) ?_
    · show Steps p.tables e below (T32.setTop (mkF m 401 (la0_44 p0 p1 p2 p3 p4 b0_64 b0_70) [(.int (v0_217 p0 p1 p2 p3 p4)), (.int ((v0_233 p0 p1 p2 p3 p4) + (1 : Int32)))])) t
      by_cases hc33 : ((v0_233 p0 p1 p2 p3 p4) + (1 : Int32)) = (v0_217 p0 p1 p2 p3 p4)
      · skip
        refine XS.icmpNo X32.here hx rfl (hb hby at_401) rfl (teq (hc33)).2 ?_
        show Steps p.tables e below (T32.setTop (mkF m 404 (la0_44 p0 p1 p2 p3 p4 b0_64 b0_70) [])) t
        refine SGo.go (T' := T32) (g' := (mkF m 409 (la0_44 p0 p1 p2 p3 p4 b0_64 b0_70) [(.int (1 : Int32))])) (fun t k => ?_) ?_
        · show Steps p.tables e below (T32.setTop (mkF m 404 (la0_44 p0 p1 p2 p3 p4 b0_64 b0_70) [])) t
          refine XS.iconst X32.here hx rfl (hb hby at_404) ?_
          show Steps p.tables e below (T32.setTop (mkF m 405 (la0_44 p0 p1 p2 p3 p4 b0_64 b0_70) [(.int (1 : Int32))])) t
          refine XS.goto X32.here hx rfl (pc0 := 405) (pc' := 409) rfl (hb hby at_405) (by decide) (by decide) ?_
          show Steps p.tables e below (T32.setTop (mkF m 409 (la0_44 p0 p1 p2 p3 p4 b0_64 b0_70) [(.int (1 : Int32))])) t
          exact k
        exact (own_k (f := fun (z : Int32) => mkF m 409 #[.val (.int p0), .val (.int p1), .val (.int p2), .val (.int p3), .val (.int p4), .val (.int (1 : Int32)), .val (.int (v0_11 p0 p1 p2 p3 p4)), .val (.int (v0_21 p0 p1 p2 p3 p4)), .val (.int (v0_32 p0 p1 p2 p3 p4)), .val (.int (v0_41 p0 p1 p2 p3 p4)), .val (.int (v0_50 p0 p1 p2 p3 p4)), .val (.int (v0_60 p0 p1 p2 p3 p4)), .val (.ref b0_64), .val (.ref b0_70), .val (.int (v0_11 p0 p1 p2 p3 p4)), .val (.int (1 : Int32)), .val (.int (1 : Int32)), .val (.int (v0_41 p0 p1 p2 p3 p4)), .val (.int (0 : Int32)), .val (.int (0 : Int32)), .val (.int (v0_217 p0 p1 p2 p3 p4)), .val (.int (v0_233 p0 p1 p2 p3 p4)), .val (.int (v0_242 p0 p1 p2 p3 p4)), .val (.int (v0_257 p0 p1 p2 p3 p4)), .val (.int (0 : Int32)), .val (.int (0 : Int32)), .val (.int (v0_326x p0 p1 p2 p3 p4)), .val (.int (v0_377 p0 p1 p2 p3 p4)), .val (.int (v0_393 p0 p1 p2 p3 p4)), .unset, .unset] [(.int z)]) (if_pos hc33) k)
      · skip
        refine XS.icmpYes X32.here hx rfl (pc0 := 401) (pc' := 408) rfl (hb hby at_401) rfl (feq (hc33)).2 (by decide) (by decide) ?_
        show Steps p.tables e below (T32.setTop (mkF m 408 (la0_44 p0 p1 p2 p3 p4 b0_64 b0_70) [])) t
        refine SGo.go (T' := T32) (g' := (mkF m 409 (la0_44 p0 p1 p2 p3 p4 b0_64 b0_70) [(.int (0 : Int32))])) (fun t k => ?_) ?_
        · show Steps p.tables e below (T32.setTop (mkF m 408 (la0_44 p0 p1 p2 p3 p4 b0_64 b0_70) [])) t
          refine XS.iconst X32.here hx rfl (hb hby at_408) ?_
          show Steps p.tables e below (T32.setTop (mkF m 409 (la0_44 p0 p1 p2 p3 p4 b0_64 b0_70) [(.int (0 : Int32))])) t
          exact k
        exact (own_k (f := fun (z : Int32) => mkF m 409 #[.val (.int p0), .val (.int p1), .val (.int p2), .val (.int p3), .val (.int p4), .val (.int (1 : Int32)), .val (.int (v0_11 p0 p1 p2 p3 p4)), .val (.int (v0_21 p0 p1 p2 p3 p4)), .val (.int (v0_32 p0 p1 p2 p3 p4)), .val (.int (v0_41 p0 p1 p2 p3 p4)), .val (.int (v0_50 p0 p1 p2 p3 p4)), .val (.int (v0_60 p0 p1 p2 p3 p4)), .val (.ref b0_64), .val (.ref b0_70), .val (.int (v0_11 p0 p1 p2 p3 p4)), .val (.int (1 : Int32)), .val (.int (1 : Int32)), .val (.int (v0_41 p0 p1 p2 p3 p4)), .val (.int (0 : Int32)), .val (.int (0 : Int32)), .val (.int (v0_217 p0 p1 p2 p3 p4)), .val (.int (v0_233 p0 p1 p2 p3 p4)), .val (.int (v0_242 p0 p1 p2 p3 p4)), .val (.int (v0_257 p0 p1 p2 p3 p4)), .val (.int (0 : Int32)), .val (.int (0 : Int32)), .val (.int (v0_326x p0 p1 p2 p3 p4)), .val (.int (v0_377 p0 p1 p2 p3 p4)), .val (.int (v0_393 p0 p1 p2 p3 p4)), .unset, .unset] [(.int z)]) (if_neg hc33) k)
    refine OEnd.go (T' := T32) (g' := (mkF m 413 (la0_45 p0 p1 p2 p3 p4 b0_64 b0_70) [(.int (v0_409 p0 p1 p2 p3 p4))])) (fun t k => ?_) ?_
    · show Steps p.tables e below (T32.setTop (mkF m 409 (la0_44 p0 p1 p2 p3 p4 b0_64 b0_70) [(.int (if ((v0_233 p0 p1 p2 p3 p4) + (1 : Int32)) = (v0_217 p0 p1 p2 p3 p4) then (1 : Int32) else (0 : Int32)))])) t
      refine XS.istore X32.here hx rfl (hb hby at_409) rfl (l' := (la0_45 p0 p1 p2 p3 p4 b0_64 b0_70)) rfl ?_
      show Steps p.tables e below (T32.setTop (mkF m 411 (la0_45 p0 p1 p2 p3 p4 b0_64 b0_70) [])) t
      refine XS.iload X32.here hx rfl (hb hby at_411) rfl ?_
      show Steps p.tables e below (T32.setTop (mkF m 413 (la0_45 p0 p1 p2 p3 p4 b0_64 b0_70) [(.int (v0_409 p0 p1 p2 p3 p4))])) t
      exact k
    refine OEnd.go (T' := T32) (g' := (mkF m 424 (la0_45 p0 p1 p2 p3 p4 b0_64 b0_70) [(.int (if (v0_409 p0 p1 p2 p3 p4) = (0 : Int32) then ((v0_233 p0 p1 p2 p3 p4) + (1 : Int32)) else (0 : Int32)))])) (fun t k => ?_) ?_
    · show Steps p.tables e below (T32.setTop (mkF m 413 (la0_45 p0 p1 p2 p3 p4 b0_64 b0_70) [(.int (v0_409 p0 p1 p2 p3 p4))])) t
      by_cases hc34 : (v0_409 p0 p1 p2 p3 p4) = (0 : Int32)
      · skip
        refine XS.ifYes X32.here hx rfl (pc0 := 413) (pc' := 420) rfl (hb hby at_413) rfl ((if0 _ _).trans (teq (hc34)).1) (by decide) (by decide) ?_
        show Steps p.tables e below (T32.setTop (mkF m 420 (la0_45 p0 p1 p2 p3 p4 b0_64 b0_70) [])) t
        refine SGo.go (T' := T32) (g' := (mkF m 424 (la0_45 p0 p1 p2 p3 p4 b0_64 b0_70) [(.int ((v0_233 p0 p1 p2 p3 p4) + (1 : Int32)))])) (fun t k => ?_) ?_
        · show Steps p.tables e below (T32.setTop (mkF m 420 (la0_45 p0 p1 p2 p3 p4 b0_64 b0_70) [])) t
          refine XS.iload X32.here hx rfl (hb hby at_420) rfl ?_
          show Steps p.tables e below (T32.setTop (mkF m 422 (la0_45 p0 p1 p2 p3 p4 b0_64 b0_70) [(.int (v0_233 p0 p1 p2 p3 p4))])) t
          refine XS.iconst X32.here hx rfl (hb hby at_422) ?_
          show Steps p.tables e below (T32.setTop (mkF m 423 (la0_45 p0 p1 p2 p3 p4 b0_64 b0_70) [(.int (1 : Int32)), (.int (v0_233 p0 p1 p2 p3 p4))])) t
          refine XS.iadd X32.here hx rfl (hb hby at_423) rfl ?_
          show Steps p.tables e below (T32.setTop (mkF m 424 (la0_45 p0 p1 p2 p3 p4 b0_64 b0_70) [(.int ((v0_233 p0 p1 p2 p3 p4) + (1 : Int32)))])) t
          exact k
        exact (own_k (f := fun (z : Int32) => mkF m 424 #[.val (.int p0), .val (.int p1), .val (.int p2), .val (.int p3), .val (.int p4), .val (.int (1 : Int32)), .val (.int (v0_11 p0 p1 p2 p3 p4)), .val (.int (v0_21 p0 p1 p2 p3 p4)), .val (.int (v0_32 p0 p1 p2 p3 p4)), .val (.int (v0_41 p0 p1 p2 p3 p4)), .val (.int (v0_50 p0 p1 p2 p3 p4)), .val (.int (v0_60 p0 p1 p2 p3 p4)), .val (.ref b0_64), .val (.ref b0_70), .val (.int (v0_11 p0 p1 p2 p3 p4)), .val (.int (1 : Int32)), .val (.int (1 : Int32)), .val (.int (v0_41 p0 p1 p2 p3 p4)), .val (.int (0 : Int32)), .val (.int (0 : Int32)), .val (.int (v0_217 p0 p1 p2 p3 p4)), .val (.int (v0_233 p0 p1 p2 p3 p4)), .val (.int (v0_242 p0 p1 p2 p3 p4)), .val (.int (v0_257 p0 p1 p2 p3 p4)), .val (.int (0 : Int32)), .val (.int (0 : Int32)), .val (.int (v0_326x p0 p1 p2 p3 p4)), .val (.int (v0_377 p0 p1 p2 p3 p4)), .val (.int (v0_393 p0 p1 p2 p3 p4)), .val (.int (v0_409 p0 p1 p2 p3 p4)), .unset] [(.int z)]) (if_pos hc34) k)
      · skip
        refine XS.ifNo X32.here hx rfl (hb hby at_413) rfl ((if0 _ _).trans (feq (hc34)).1) ?_
        show Steps p.tables e below (T32.setTop (mkF m 416 (la0_45 p0 p1 p2 p3 p4 b0_64 b0_70) [])) t
        refine SGo.go (T' := T32) (g' := (mkF m 424 (la0_45 p0 p1 p2 p3 p4 b0_64 b0_70) [(.int (0 : Int32))])) (fun t k => ?_) ?_
        · show Steps p.tables e below (T32.setTop (mkF m 416 (la0_45 p0 p1 p2 p3 p4 b0_64 b0_70) [])) t
          refine XS.iconst X32.here hx rfl (hb hby at_416) ?_
          show Steps p.tables e below (T32.setTop (mkF m 417 (la0_45 p0 p1 p2 p3 p4 b0_64 b0_70) [(.int (0 : Int32))])) t
          refine XS.goto X32.here hx rfl (pc0 := 417) (pc' := 424) rfl (hb hby at_417) (by decide) (by decide) ?_
          show Steps p.tables e below (T32.setTop (mkF m 424 (la0_45 p0 p1 p2 p3 p4 b0_64 b0_70) [(.int (0 : Int32))])) t
          exact k
        exact (own_k (f := fun (z : Int32) => mkF m 424 #[.val (.int p0), .val (.int p1), .val (.int p2), .val (.int p3), .val (.int p4), .val (.int (1 : Int32)), .val (.int (v0_11 p0 p1 p2 p3 p4)), .val (.int (v0_21 p0 p1 p2 p3 p4)), .val (.int (v0_32 p0 p1 p2 p3 p4)), .val (.int (v0_41 p0 p1 p2 p3 p4)), .val (.int (v0_50 p0 p1 p2 p3 p4)), .val (.int (v0_60 p0 p1 p2 p3 p4)), .val (.ref b0_64), .val (.ref b0_70), .val (.int (v0_11 p0 p1 p2 p3 p4)), .val (.int (1 : Int32)), .val (.int (1 : Int32)), .val (.int (v0_41 p0 p1 p2 p3 p4)), .val (.int (0 : Int32)), .val (.int (0 : Int32)), .val (.int (v0_217 p0 p1 p2 p3 p4)), .val (.int (v0_233 p0 p1 p2 p3 p4)), .val (.int (v0_242 p0 p1 p2 p3 p4)), .val (.int (v0_257 p0 p1 p2 p3 p4)), .val (.int (0 : Int32)), .val (.int (0 : Int32)), .val (.int (v0_326x p0 p1 p2 p3 p4)), .val (.int (v0_377 p0 p1 p2 p3 p4)), .val (.int (v0_393 p0 p1 p2 p3 p4)), .val (.int (v0_409 p0 p1 p2 p3 p4)), .unset] [(.int z)]) (if_neg hc34) k)
    refine OEnd.go (T' := T32) (g' := (mkF m 428 (la0_46 p0 p1 p2 p3 p4 b0_64 b0_70) [(.int (v0_326x p0 p1 p2 p3 p4))])) (fun t k => ?_) ?_
    · show Steps p.tables e below (T32.setTop (mkF m 424 (la0_45 p0 p1 p2 p3 p4 b0_64 b0_70) [(.int (if (v0_409 p0 p1 p2 p3 p4) = (0 : Int32) then ((v0_233 p0 p1 p2 p3 p4) + (1 : Int32)) else (0 : Int32)))])) t
      refine XS.istore X32.here hx rfl (hb hby at_424) rfl (l' := (la0_46 p0 p1 p2 p3 p4 b0_64 b0_70)) rfl ?_
      show Steps p.tables e below (T32.setTop (mkF m 426 (la0_46 p0 p1 p2 p3 p4 b0_64 b0_70) [])) t
      refine XS.iload X32.here hx rfl (hb hby at_426) rfl ?_
      show Steps p.tables e below (T32.setTop (mkF m 428 (la0_46 p0 p1 p2 p3 p4 b0_64 b0_70) [(.int (v0_326x p0 p1 p2 p3 p4))])) t
      exact k
    refine OEnd.go (T' := T32) (g' := (mkF m 463 (la0_46 p0 p1 p2 p3 p4 b0_64 b0_70) [(.int (if (v0_326x p0 p1 p2 p3 p4) = (0 : Int32) then (0 : Int32) else (if (v0_377 p0 p1 p2 p3 p4) = (0 : Int32) then (0 : Int32) else (if (v0_242 p0 p1 p2 p3 p4) = (v0_448_s0 p0 p1 p2 p3 p4) then (if (v0_393 p0 p1 p2 p3 p4) = (v0_424 p0 p1 p2 p3 p4) then (1 : Int32) else (0 : Int32)) else (0 : Int32)))))])) (fun t k => ?_) ?_
    · show Steps p.tables e below (T32.setTop (mkF m 428 (la0_46 p0 p1 p2 p3 p4 b0_64 b0_70) [(.int (v0_326x p0 p1 p2 p3 p4))])) t
      by_cases hc35 : (v0_326x p0 p1 p2 p3 p4) = (0 : Int32)
      · skip
        refine XS.ifYes X32.here hx rfl (pc0 := 428) (pc' := 462) rfl (hb hby at_428) rfl ((if0 _ _).trans (teq (hc35)).1) (by decide) (by decide) ?_
        show Steps p.tables e below (T32.setTop (mkF m 462 (la0_46 p0 p1 p2 p3 p4 b0_64 b0_70) [])) t
        refine SGo.go (T' := T32) (g' := (mkF m 463 (la0_46 p0 p1 p2 p3 p4 b0_64 b0_70) [(.int (0 : Int32))])) (fun t k => ?_) ?_
        · show Steps p.tables e below (T32.setTop (mkF m 462 (la0_46 p0 p1 p2 p3 p4 b0_64 b0_70) [])) t
          refine XS.iconst X32.here hx rfl (hb hby at_462) ?_
          show Steps p.tables e below (T32.setTop (mkF m 463 (la0_46 p0 p1 p2 p3 p4 b0_64 b0_70) [(.int (0 : Int32))])) t
          exact k
        exact (own_k (f := fun (z : Int32) => mkF m 463 #[.val (.int p0), .val (.int p1), .val (.int p2), .val (.int p3), .val (.int p4), .val (.int (1 : Int32)), .val (.int (v0_11 p0 p1 p2 p3 p4)), .val (.int (v0_21 p0 p1 p2 p3 p4)), .val (.int (v0_32 p0 p1 p2 p3 p4)), .val (.int (v0_41 p0 p1 p2 p3 p4)), .val (.int (v0_50 p0 p1 p2 p3 p4)), .val (.int (v0_60 p0 p1 p2 p3 p4)), .val (.ref b0_64), .val (.ref b0_70), .val (.int (v0_11 p0 p1 p2 p3 p4)), .val (.int (1 : Int32)), .val (.int (1 : Int32)), .val (.int (v0_41 p0 p1 p2 p3 p4)), .val (.int (0 : Int32)), .val (.int (0 : Int32)), .val (.int (v0_217 p0 p1 p2 p3 p4)), .val (.int (v0_233 p0 p1 p2 p3 p4)), .val (.int (v0_242 p0 p1 p2 p3 p4)), .val (.int (v0_257 p0 p1 p2 p3 p4)), .val (.int (0 : Int32)), .val (.int (0 : Int32)), .val (.int (v0_326x p0 p1 p2 p3 p4)), .val (.int (v0_377 p0 p1 p2 p3 p4)), .val (.int (v0_393 p0 p1 p2 p3 p4)), .val (.int (v0_409 p0 p1 p2 p3 p4)), .val (.int (v0_424 p0 p1 p2 p3 p4))] [(.int z)]) (if_pos hc35) k)
      · skip
        refine XS.ifNo X32.here hx rfl (hb hby at_428) rfl ((if0 _ _).trans (feq (hc35)).1) ?_
        show Steps p.tables e below (T32.setTop (mkF m 431 (la0_46 p0 p1 p2 p3 p4 b0_64 b0_70) [])) t
        refine SGo.go (T' := T32) (g' := (mkF m 433 (la0_46 p0 p1 p2 p3 p4 b0_64 b0_70) [(.int (v0_377 p0 p1 p2 p3 p4))])) (fun t k => ?_) ?_
        · show Steps p.tables e below (T32.setTop (mkF m 431 (la0_46 p0 p1 p2 p3 p4 b0_64 b0_70) [])) t
          refine XS.iload X32.here hx rfl (hb hby at_431) rfl ?_
          show Steps p.tables e below (T32.setTop (mkF m 433 (la0_46 p0 p1 p2 p3 p4 b0_64 b0_70) [(.int (v0_377 p0 p1 p2 p3 p4))])) t
          exact k
        by_cases hc36 : (v0_377 p0 p1 p2 p3 p4) = (0 : Int32)
        · skip
          refine XS.ifYes X32.here hx rfl (pc0 := 433) (pc' := 462) rfl (hb hby at_433) rfl ((if0 _ _).trans (teq (hc36)).1) (by decide) (by decide) ?_
          show Steps p.tables e below (T32.setTop (mkF m 462 (la0_46 p0 p1 p2 p3 p4 b0_64 b0_70) [])) t
          refine SGo.go (T' := T32) (g' := (mkF m 463 (la0_46 p0 p1 p2 p3 p4 b0_64 b0_70) [(.int (0 : Int32))])) (fun t k => ?_) ?_
          · show Steps p.tables e below (T32.setTop (mkF m 462 (la0_46 p0 p1 p2 p3 p4 b0_64 b0_70) [])) t
            refine XS.iconst X32.here hx rfl (hb hby at_462) ?_
            show Steps p.tables e below (T32.setTop (mkF m 463 (la0_46 p0 p1 p2 p3 p4 b0_64 b0_70) [(.int (0 : Int32))])) t
            exact k
          exact (own_k (f := fun (z : Int32) => mkF m 463 #[.val (.int p0), .val (.int p1), .val (.int p2), .val (.int p3), .val (.int p4), .val (.int (1 : Int32)), .val (.int (v0_11 p0 p1 p2 p3 p4)), .val (.int (v0_21 p0 p1 p2 p3 p4)), .val (.int (v0_32 p0 p1 p2 p3 p4)), .val (.int (v0_41 p0 p1 p2 p3 p4)), .val (.int (v0_50 p0 p1 p2 p3 p4)), .val (.int (v0_60 p0 p1 p2 p3 p4)), .val (.ref b0_64), .val (.ref b0_70), .val (.int (v0_11 p0 p1 p2 p3 p4)), .val (.int (1 : Int32)), .val (.int (1 : Int32)), .val (.int (v0_41 p0 p1 p2 p3 p4)), .val (.int (0 : Int32)), .val (.int (0 : Int32)), .val (.int (v0_217 p0 p1 p2 p3 p4)), .val (.int (v0_233 p0 p1 p2 p3 p4)), .val (.int (v0_242 p0 p1 p2 p3 p4)), .val (.int (v0_257 p0 p1 p2 p3 p4)), .val (.int (0 : Int32)), .val (.int (0 : Int32)), .val (.int (v0_326x p0 p1 p2 p3 p4)), .val (.int (v0_377 p0 p1 p2 p3 p4)), .val (.int (v0_393 p0 p1 p2 p3 p4)), .val (.int (v0_409 p0 p1 p2 p3 p4)), .val (.int (v0_424 p0 p1 p2 p3 p4))] [(.int z)]) ((if_neg hc35).trans (if_pos hc36)) k)
        · skip
          refine XS.ifNo X32.here hx rfl (hb hby at_433) rfl ((if0 _ _).trans (feq (hc36)).1) ?_
          show Steps p.tables e below (T32.setTop (mkF m 436 (la0_46 p0 p1 p2 p3 p4 b0_64 b0_70) [])) t
          refine SGo.go (T' := T32) (g' := (mkF m 440 (la0_46 p0 p1 p2 p3 p4 b0_64 b0_70) [(.int (v0_409 p0 p1 p2 p3 p4)), (.int (v0_242 p0 p1 p2 p3 p4))])) (fun t k => ?_) ?_
          · show Steps p.tables e below (T32.setTop (mkF m 436 (la0_46 p0 p1 p2 p3 p4 b0_64 b0_70) [])) t
            refine XS.iload X32.here hx rfl (hb hby at_436) rfl ?_
            show Steps p.tables e below (T32.setTop (mkF m 438 (la0_46 p0 p1 p2 p3 p4 b0_64 b0_70) [(.int (v0_242 p0 p1 p2 p3 p4))])) t
            refine XS.iload X32.here hx rfl (hb hby at_438) rfl ?_
            show Steps p.tables e below (T32.setTop (mkF m 440 (la0_46 p0 p1 p2 p3 p4 b0_64 b0_70) [(.int (v0_409 p0 p1 p2 p3 p4)), (.int (v0_242 p0 p1 p2 p3 p4))])) t
            exact k
          refine SGo.go (T' := T32) (g' := (mkF m 448 (la0_46 p0 p1 p2 p3 p4 b0_64 b0_70) [(.int (if (v0_409 p0 p1 p2 p3 p4) = (0 : Int32) then (1 : Int32) else (0 : Int32))), (.int (v0_242 p0 p1 p2 p3 p4))])) (fun t k => ?_) ?_
          · show Steps p.tables e below (T32.setTop (mkF m 440 (la0_46 p0 p1 p2 p3 p4 b0_64 b0_70) [(.int (v0_409 p0 p1 p2 p3 p4)), (.int (v0_242 p0 p1 p2 p3 p4))])) t
            by_cases hc37 : (v0_409 p0 p1 p2 p3 p4) = (0 : Int32)
            · skip
              refine XS.ifNo X32.here hx rfl (hb hby at_440) rfl ((if0 _ _).trans (teq (hc37)).2) ?_
              show Steps p.tables e below (T32.setTop (mkF m 443 (la0_46 p0 p1 p2 p3 p4 b0_64 b0_70) [(.int (v0_242 p0 p1 p2 p3 p4))])) t
              refine SGo.go (T' := T32) (g' := (mkF m 448 (la0_46 p0 p1 p2 p3 p4 b0_64 b0_70) [(.int (1 : Int32)), (.int (v0_242 p0 p1 p2 p3 p4))])) (fun t k => ?_) ?_
              · show Steps p.tables e below (T32.setTop (mkF m 443 (la0_46 p0 p1 p2 p3 p4 b0_64 b0_70) [(.int (v0_242 p0 p1 p2 p3 p4))])) t
                refine XS.iconst X32.here hx rfl (hb hby at_443) ?_
                show Steps p.tables e below (T32.setTop (mkF m 444 (la0_46 p0 p1 p2 p3 p4 b0_64 b0_70) [(.int (1 : Int32)), (.int (v0_242 p0 p1 p2 p3 p4))])) t
                refine XS.goto X32.here hx rfl (pc0 := 444) (pc' := 448) rfl (hb hby at_444) (by decide) (by decide) ?_
                show Steps p.tables e below (T32.setTop (mkF m 448 (la0_46 p0 p1 p2 p3 p4 b0_64 b0_70) [(.int (1 : Int32)), (.int (v0_242 p0 p1 p2 p3 p4))])) t
                exact k
              exact (own_k (f := fun (z : Int32) => mkF m 448 #[.val (.int p0), .val (.int p1), .val (.int p2), .val (.int p3), .val (.int p4), .val (.int (1 : Int32)), .val (.int (v0_11 p0 p1 p2 p3 p4)), .val (.int (v0_21 p0 p1 p2 p3 p4)), .val (.int (v0_32 p0 p1 p2 p3 p4)), .val (.int (v0_41 p0 p1 p2 p3 p4)), .val (.int (v0_50 p0 p1 p2 p3 p4)), .val (.int (v0_60 p0 p1 p2 p3 p4)), .val (.ref b0_64), .val (.ref b0_70), .val (.int (v0_11 p0 p1 p2 p3 p4)), .val (.int (1 : Int32)), .val (.int (1 : Int32)), .val (.int (v0_41 p0 p1 p2 p3 p4)), .val (.int (0 : Int32)), .val (.int (0 : Int32)), .val (.int (v0_217 p0 p1 p2 p3 p4)), .val (.int (v0_233 p0 p1 p2 p3 p4)), .val (.int (v0_242 p0 p1 p2 p3 p4)), .val (.int (v0_257 p0 p1 p2 p3 p4)), .val (.int (0 : Int32)), .val (.int (0 : Int32)), .val (.int (v0_326x p0 p1 p2 p3 p4)), .val (.int (v0_377 p0 p1 p2 p3 p4)), .val (.int (v0_393 p0 p1 p2 p3 p4)), .val (.int (v0_409 p0 p1 p2 p3 p4)), .val (.int (v0_424 p0 p1 p2 p3 p4))] [(.int z), (.int (v0_242 p0 p1 p2 p3 p4))]) (if_pos hc37) k)
            · skip
              refine XS.ifYes X32.here hx rfl (pc0 := 440) (pc' := 447) rfl (hb hby at_440) rfl ((if0 _ _).trans (feq (hc37)).2) (by decide) (by decide) ?_
              show Steps p.tables e below (T32.setTop (mkF m 447 (la0_46 p0 p1 p2 p3 p4 b0_64 b0_70) [(.int (v0_242 p0 p1 p2 p3 p4))])) t
              refine SGo.go (T' := T32) (g' := (mkF m 448 (la0_46 p0 p1 p2 p3 p4 b0_64 b0_70) [(.int (0 : Int32)), (.int (v0_242 p0 p1 p2 p3 p4))])) (fun t k => ?_) ?_
              · show Steps p.tables e below (T32.setTop (mkF m 447 (la0_46 p0 p1 p2 p3 p4 b0_64 b0_70) [(.int (v0_242 p0 p1 p2 p3 p4))])) t
                refine XS.iconst X32.here hx rfl (hb hby at_447) ?_
                show Steps p.tables e below (T32.setTop (mkF m 448 (la0_46 p0 p1 p2 p3 p4 b0_64 b0_70) [(.int (0 : Int32)), (.int (v0_242 p0 p1 p2 p3 p4))])) t
                exact k
              exact (own_k (f := fun (z : Int32) => mkF m 448 #[.val (.int p0), .val (.int p1), .val (.int p2), .val (.int p3), .val (.int p4), .val (.int (1 : Int32)), .val (.int (v0_11 p0 p1 p2 p3 p4)), .val (.int (v0_21 p0 p1 p2 p3 p4)), .val (.int (v0_32 p0 p1 p2 p3 p4)), .val (.int (v0_41 p0 p1 p2 p3 p4)), .val (.int (v0_50 p0 p1 p2 p3 p4)), .val (.int (v0_60 p0 p1 p2 p3 p4)), .val (.ref b0_64), .val (.ref b0_70), .val (.int (v0_11 p0 p1 p2 p3 p4)), .val (.int (1 : Int32)), .val (.int (1 : Int32)), .val (.int (v0_41 p0 p1 p2 p3 p4)), .val (.int (0 : Int32)), .val (.int (0 : Int32)), .val (.int (v0_217 p0 p1 p2 p3 p4)), .val (.int (v0_233 p0 p1 p2 p3 p4)), .val (.int (v0_242 p0 p1 p2 p3 p4)), .val (.int (v0_257 p0 p1 p2 p3 p4)), .val (.int (0 : Int32)), .val (.int (0 : Int32)), .val (.int (v0_326x p0 p1 p2 p3 p4)), .val (.int (v0_377 p0 p1 p2 p3 p4)), .val (.int (v0_393 p0 p1 p2 p3 p4)), .val (.int (v0_409 p0 p1 p2 p3 p4)), .val (.int (v0_424 p0 p1 p2 p3 p4))] [(.int z), (.int (v0_242 p0 p1 p2 p3 p4))]) (if_neg hc37) k)
          by_cases hc38 : (v0_242 p0 p1 p2 p3 p4) = (v0_448_s0 p0 p1 p2 p3 p4)
          · skip
            refine XS.icmpNo X32.here hx rfl (hb hby at_448) rfl (teq (hc38)).2 ?_
            show Steps p.tables e below (T32.setTop (mkF m 451 (la0_46 p0 p1 p2 p3 p4 b0_64 b0_70) [])) t
            refine SGo.go (T' := T32) (g' := (mkF m 455 (la0_46 p0 p1 p2 p3 p4 b0_64 b0_70) [(.int (v0_424 p0 p1 p2 p3 p4)), (.int (v0_393 p0 p1 p2 p3 p4))])) (fun t k => ?_) ?_
            · show Steps p.tables e below (T32.setTop (mkF m 451 (la0_46 p0 p1 p2 p3 p4 b0_64 b0_70) [])) t
              refine XS.iload X32.here hx rfl (hb hby at_451) rfl ?_
              show Steps p.tables e below (T32.setTop (mkF m 453 (la0_46 p0 p1 p2 p3 p4 b0_64 b0_70) [(.int (v0_393 p0 p1 p2 p3 p4))])) t
              refine XS.iload X32.here hx rfl (hb hby at_453) rfl ?_
              show Steps p.tables e below (T32.setTop (mkF m 455 (la0_46 p0 p1 p2 p3 p4 b0_64 b0_70) [(.int (v0_424 p0 p1 p2 p3 p4)), (.int (v0_393 p0 p1 p2 p3 p4))])) t
              exact k
            by_cases hc39 : (v0_393 p0 p1 p2 p3 p4) = (v0_424 p0 p1 p2 p3 p4)
            · skip
              refine XS.icmpNo X32.here hx rfl (hb hby at_455) rfl (teq (hc39)).2 ?_
              show Steps p.tables e below (T32.setTop (mkF m 458 (la0_46 p0 p1 p2 p3 p4 b0_64 b0_70) [])) t
              refine SGo.go (T' := T32) (g' := (mkF m 463 (la0_46 p0 p1 p2 p3 p4 b0_64 b0_70) [(.int (1 : Int32))])) (fun t k => ?_) ?_
              · show Steps p.tables e below (T32.setTop (mkF m 458 (la0_46 p0 p1 p2 p3 p4 b0_64 b0_70) [])) t
                refine XS.iconst X32.here hx rfl (hb hby at_458) ?_
                show Steps p.tables e below (T32.setTop (mkF m 459 (la0_46 p0 p1 p2 p3 p4 b0_64 b0_70) [(.int (1 : Int32))])) t
                refine XS.goto X32.here hx rfl (pc0 := 459) (pc' := 463) rfl (hb hby at_459) (by decide) (by decide) ?_
                show Steps p.tables e below (T32.setTop (mkF m 463 (la0_46 p0 p1 p2 p3 p4 b0_64 b0_70) [(.int (1 : Int32))])) t
                exact k
              exact (own_k (f := fun (z : Int32) => mkF m 463 #[.val (.int p0), .val (.int p1), .val (.int p2), .val (.int p3), .val (.int p4), .val (.int (1 : Int32)), .val (.int (v0_11 p0 p1 p2 p3 p4)), .val (.int (v0_21 p0 p1 p2 p3 p4)), .val (.int (v0_32 p0 p1 p2 p3 p4)), .val (.int (v0_41 p0 p1 p2 p3 p4)), .val (.int (v0_50 p0 p1 p2 p3 p4)), .val (.int (v0_60 p0 p1 p2 p3 p4)), .val (.ref b0_64), .val (.ref b0_70), .val (.int (v0_11 p0 p1 p2 p3 p4)), .val (.int (1 : Int32)), .val (.int (1 : Int32)), .val (.int (v0_41 p0 p1 p2 p3 p4)), .val (.int (0 : Int32)), .val (.int (0 : Int32)), .val (.int (v0_217 p0 p1 p2 p3 p4)), .val (.int (v0_233 p0 p1 p2 p3 p4)), .val (.int (v0_242 p0 p1 p2 p3 p4)), .val (.int (v0_257 p0 p1 p2 p3 p4)), .val (.int (0 : Int32)), .val (.int (0 : Int32)), .val (.int (v0_326x p0 p1 p2 p3 p4)), .val (.int (v0_377 p0 p1 p2 p3 p4)), .val (.int (v0_393 p0 p1 p2 p3 p4)), .val (.int (v0_409 p0 p1 p2 p3 p4)), .val (.int (v0_424 p0 p1 p2 p3 p4))] [(.int z)]) ((if_neg hc35).trans ((if_neg hc36).trans ((if_pos hc38).trans (if_pos hc39)))) k)
            · skip
              refine XS.icmpYes X32.here hx rfl (pc0 := 455) (pc' := 462) rfl (hb hby at_455) rfl (feq (hc39)).2 (by decide) (by decide) ?_
              show Steps p.tables e below (T32.setTop (mkF m 462 (la0_46 p0 p1 p2 p3 p4 b0_64 b0_70) [])) t
              refine SGo.go (T' := T32) (g' := (mkF m 463 (la0_46 p0 p1 p2 p3 p4 b0_64 b0_70) [(.int (0 : Int32))])) (fun t k => ?_) ?_
              · show Steps p.tables e below (T32.setTop (mkF m 462 (la0_46 p0 p1 p2 p3 p4 b0_64 b0_70) [])) t
                refine XS.iconst X32.here hx rfl (hb hby at_462) ?_
                show Steps p.tables e below (T32.setTop (mkF m 463 (la0_46 p0 p1 p2 p3 p4 b0_64 b0_70) [(.int (0 : Int32))])) t
                exact k
              exact (own_k (f := fun (z : Int32) => mkF m 463 #[.val (.int p0), .val (.int p1), .val (.int p2), .val (.int p3), .val (.int p4), .val (.int (1 : Int32)), .val (.int (v0_11 p0 p1 p2 p3 p4)), .val (.int (v0_21 p0 p1 p2 p3 p4)), .val (.int (v0_32 p0 p1 p2 p3 p4)), .val (.int (v0_41 p0 p1 p2 p3 p4)), .val (.int (v0_50 p0 p1 p2 p3 p4)), .val (.int (v0_60 p0 p1 p2 p3 p4)), .val (.ref b0_64), .val (.ref b0_70), .val (.int (v0_11 p0 p1 p2 p3 p4)), .val (.int (1 : Int32)), .val (.int (1 : Int32)), .val (.int (v0_41 p0 p1 p2 p3 p4)), .val (.int (0 : Int32)), .val (.int (0 : Int32)), .val (.int (v0_217 p0 p1 p2 p3 p4)), .val (.int (v0_233 p0 p1 p2 p3 p4)), .val (.int (v0_242 p0 p1 p2 p3 p4)), .val (.int (v0_257 p0 p1 p2 p3 p4)), .val (.int (0 : Int32)), .val (.int (0 : Int32)), .val (.int (v0_326x p0 p1 p2 p3 p4)), .val (.int (v0_377 p0 p1 p2 p3 p4)), .val (.int (v0_393 p0 p1 p2 p3 p4)), .val (.int (v0_409 p0 p1 p2 p3 p4)), .val (.int (v0_424 p0 p1 p2 p3 p4))] [(.int z)]) ((if_neg hc35).trans ((if_neg hc36).trans ((if_pos hc38).trans (if_neg hc39)))) k)
          · skip
            refine XS.icmpYes X32.here hx rfl (pc0 := 448) (pc' := 462) rfl (hb hby at_448) rfl (feq (hc38)).2 (by decide) (by decide) ?_
            show Steps p.tables e below (T32.setTop (mkF m 462 (la0_46 p0 p1 p2 p3 p4 b0_64 b0_70) [])) t
            refine SGo.go (T' := T32) (g' := (mkF m 463 (la0_46 p0 p1 p2 p3 p4 b0_64 b0_70) [(.int (0 : Int32))])) (fun t k => ?_) ?_
            · show Steps p.tables e below (T32.setTop (mkF m 462 (la0_46 p0 p1 p2 p3 p4 b0_64 b0_70) [])) t
              refine XS.iconst X32.here hx rfl (hb hby at_462) ?_
              show Steps p.tables e below (T32.setTop (mkF m 463 (la0_46 p0 p1 p2 p3 p4 b0_64 b0_70) [(.int (0 : Int32))])) t
              exact k
            exact (own_k (f := fun (z : Int32) => mkF m 463 #[.val (.int p0), .val (.int p1), .val (.int p2), .val (.int p3), .val (.int p4), .val (.int (1 : Int32)), .val (.int (v0_11 p0 p1 p2 p3 p4)), .val (.int (v0_21 p0 p1 p2 p3 p4)), .val (.int (v0_32 p0 p1 p2 p3 p4)), .val (.int (v0_41 p0 p1 p2 p3 p4)), .val (.int (v0_50 p0 p1 p2 p3 p4)), .val (.int (v0_60 p0 p1 p2 p3 p4)), .val (.ref b0_64), .val (.ref b0_70), .val (.int (v0_11 p0 p1 p2 p3 p4)), .val (.int (1 : Int32)), .val (.int (1 : Int32)), .val (.int (v0_41 p0 p1 p2 p3 p4)), .val (.int (0 : Int32)), .val (.int (0 : Int32)), .val (.int (v0_217 p0 p1 p2 p3 p4)), .val (.int (v0_233 p0 p1 p2 p3 p4)), .val (.int (v0_242 p0 p1 p2 p3 p4)), .val (.int (v0_257 p0 p1 p2 p3 p4)), .val (.int (0 : Int32)), .val (.int (0 : Int32)), .val (.int (v0_326x p0 p1 p2 p3 p4)), .val (.int (v0_377 p0 p1 p2 p3 p4)), .val (.int (v0_393 p0 p1 p2 p3 p4)), .val (.int (v0_409 p0 p1 p2 p3 p4)), .val (.int (v0_424 p0 p1 p2 p3 p4))] [(.int z)]) ((if_neg hc35).trans ((if_neg hc36).trans (if_neg hc38))) k)
    exact OEnd.nar X32 hx (t := .boolean) Bd.returns (by simp) hlk (hb hby at_463) ⟨(congrArg (fun z => some (Value.int (nar .boolean z))) (own_plain_1 p0 p1 p2 p3 p4)), N32⟩ (by decide) (by decide)
  · skip
    refine OEnd.go (T' := s₁) (g' := (mkF m 62 (la0_47 p0 p1 p2 p3 p4) [])) (fun t k => (own_k (f := fun (z : Int32) => mkF m 62 #[.val (.int p0), .val (.int p1), .val (.int p2), .val (.int p3), .val (.int p4), .val (.int z), .val (.int (v0_11 p0 p1 p2 p3 p4)), .val (.int (v0_21 p0 p1 p2 p3 p4)), .val (.int (v0_32 p0 p1 p2 p3 p4)), .val (.int (v0_41 p0 p1 p2 p3 p4)), .val (.int (v0_50 p0 p1 p2 p3 p4)), .val (.int (v0_60 p0 p1 p2 p3 p4)), .unset, .unset, .unset, .unset, .unset, .unset, .unset, .unset, .unset, .unset, .unset, .unset, .unset, .unset, .unset, .unset, .unset, .unset, .unset] []) hs1.symm k)) ?_
    refine OEnd.go (T' := s₁) (g' := (mkF m 64 (la0_47 p0 p1 p2 p3 p4) [(.int (2 : Int32))])) (fun t k => ?_) ?_
    · show Steps p.tables e below (s₁.setTop (mkF m 62 (la0_47 p0 p1 p2 p3 p4) [])) t
      refine XS.iload X0.here hx rfl (hb hby at_62) rfl ?_
      show Steps p.tables e below (s₁.setTop (mkF m 64 (la0_47 p0 p1 p2 p3 p4) [(.int (2 : Int32))])) t
      exact k
    obtain ⟨T40, h40, k40, X40, e40, E40, A40, st40⟩ := newP X0 hx hZ (hw _ (List.mem_of_getElem? (i := 1) rfl)) e0 (g := (mkF m 64 (la0_47 p0 p1 p2 p3 p4) [(.int (2 : Int32))])) rfl (hb hby at_64) rfl (by decide) (cap := 2) (by decide) (by decide) (by decide) (by decide)
    obtain ⟨b0_64, g40⟩ : ∃ z, z = h0.size := ⟨_, rfl⟩
    rw [← g40] at A40 st40
    have gle_b0_64 : n0 ≤ b0_64 := Nat.le_trans Z0 (Nat.le_of_eq g40.symm)
    have Z40 : n0 ≤ h40.size := Nat.le_trans Z0 E40.1
    have V40 : OArr Z h40 b0_64 .int (2 : Int32) [(.int (0 : Int32)), (.int (0 : Int32))] (.int (0 : Int32)) := ⟨_, (Arv.new A40 (by decide)).pad (pad_rep [] (.int (0 : Int32)) 2)⟩
    refine OEnd.go (g' := (mkF m 66 (la0_47 p0 p1 p2 p3 p4) [(.ref b0_64)])) st40 ?_
    refine OEnd.go (T' := T40) (g' := (mkF m 70 (la0_48 p0 p1 p2 p3 p4 b0_64) [(.int (2 : Int32))])) (fun t k => ?_) ?_
    · show Steps p.tables e below (T40.setTop (mkF m 66 (la0_47 p0 p1 p2 p3 p4) [(.ref b0_64)])) t
      refine XS.astore X40.here hx rfl (hb hby at_66) rfl rfl (l' := (la0_48 p0 p1 p2 p3 p4 b0_64)) rfl ?_
      show Steps p.tables e below (T40.setTop (mkF m 68 (la0_48 p0 p1 p2 p3 p4 b0_64) [])) t
      refine XS.iload X40.here hx rfl (hb hby at_68) rfl ?_
      show Steps p.tables e below (T40.setTop (mkF m 70 (la0_48 p0 p1 p2 p3 p4 b0_64) [(.int (2 : Int32))])) t
      exact k
    obtain ⟨T41, h41, k41, X41, e41, E41, A41, st41⟩ := newP X40 hx hZ (hw _ (List.mem_of_getElem? (i := 1) rfl)) e40 (g := (mkF m 70 (la0_48 p0 p1 p2 p3 p4 b0_64) [(.int (2 : Int32))])) rfl (hb hby at_70) rfl (by decide) (cap := 2) (by decide) (by decide) (by decide) (by decide)
    obtain ⟨b0_70, g41⟩ : ∃ z, z = h40.size := ⟨_, rfl⟩
    rw [← g41] at A41 st41
    have gle_b0_70 : n0 ≤ b0_70 := Nat.le_trans Z40 (Nat.le_of_eq g41.symm)
    have ne_b0_64_b0_70 : b0_64 ≠ b0_70 := Nat.ne_of_lt (Nat.lt_of_lt_of_le V40.lt (Nat.le_of_eq g41.symm))
    have fc42 : OArr Z h41 b0_64 .int (2 : Int32) [(.int (0 : Int32)), (.int (0 : Int32))] (.int (0 : Int32)) := (V40.ext E41)
    have Z41 : n0 ≤ h41.size := Nat.le_trans Z40 E41.1
    have V41 : OArr Z h41 b0_70 .int (2 : Int32) [(.int (0 : Int32)), (.int (0 : Int32))] (.int (0 : Int32)) := ⟨_, (Arv.new A41 (by decide)).pad (pad_rep [] (.int (0 : Int32)) 2)⟩
    refine OEnd.go (g' := (mkF m 72 (la0_48 p0 p1 p2 p3 p4 b0_64) [(.ref b0_70)])) st41 ?_
    refine OEnd.go (T' := T41) (g' := (mkF m 84 (la0_49 p0 p1 p2 p3 p4 b0_64 b0_70) [(.int (v0_11 p0 p1 p2 p3 p4)), (.int (0 : Int32)), (.ref b0_64)])) (fun t k => ?_) ?_
    · show Steps p.tables e below (T41.setTop (mkF m 72 (la0_48 p0 p1 p2 p3 p4 b0_64) [(.ref b0_70)])) t
      refine XS.astore X41.here hx rfl (hb hby at_72) rfl rfl (l' := (la0_49 p0 p1 p2 p3 p4 b0_64 b0_70)) rfl ?_
      show Steps p.tables e below (T41.setTop (mkF m 74 (la0_49 p0 p1 p2 p3 p4 b0_64 b0_70) [])) t
      refine XS.iload X41.here hx rfl (hb hby at_74) rfl ?_
      show Steps p.tables e below (T41.setTop (mkF m 76 (la0_49 p0 p1 p2 p3 p4 b0_64 b0_70) [(.int (2 : Int32))])) t
      refine XS.ifNo X41.here hx rfl (hb hby at_76) rfl ((if0 _ _).trans (tlt ((by decide))).2.2.2) ?_
      show Steps p.tables e below (T41.setTop (mkF m 79 (la0_49 p0 p1 p2 p3 p4 b0_64 b0_70) [])) t
      refine XS.aload X41.here hx rfl (hb hby at_79) rfl rfl ?_
      show Steps p.tables e below (T41.setTop (mkF m 81 (la0_49 p0 p1 p2 p3 p4 b0_64 b0_70) [(.ref b0_64)])) t
      refine XS.iconst X41.here hx rfl (hb hby at_81) ?_
      show Steps p.tables e below (T41.setTop (mkF m 82 (la0_49 p0 p1 p2 p3 p4 b0_64 b0_70) [(.int (0 : Int32)), (.ref b0_64)])) t
      refine XS.iload X41.here hx rfl (hb hby at_82) rfl ?_
      show Steps p.tables e below (T41.setTop (mkF m 84 (la0_49 p0 p1 p2 p3 p4 b0_64 b0_70) [(.int (v0_11 p0 p1 p2 p3 p4)), (.int (0 : Int32)), (.ref b0_64)])) t
      exact k
    obtain ⟨kc43, cl43, Ar43, q43, S43, M43, H43, G43⟩ := id fc42
    have hin43 : ¬ ((0 : Int32) < 0 ∨ cl43.slots.size ≤ ((0 : Int32)).toNatClampNeg) := inb_of S43 ⟨by decide, by decide⟩
    obtain ⟨T43, h43, X43, e43, W43, st43⟩ := stI X41 hx hZ e41 Ar43 (j := (0 : Int32)) hin43 (g := (mkF m 84 (la0_49 p0 p1 p2 p3 p4 b0_64 b0_70) [(.int (v0_11 p0 p1 p2 p3 p4)), (.int (0 : Int32)), (.ref b0_64)])) rfl rfl (hb hby at_84)
    have N43 := Fr.snoc X43 N0 gle_b0_64
    have Z43 : n0 ≤ h43.size := Nat.le_trans Z41 (Keep.of_wr W43).1
    have V43 : OArr Z h43 b0_64 .int (2 : Int32) [(.int (v0_11 p0 p1 p2 p3 p4)), (.int (0 : Int32))] (.int (0 : Int32)) := ⟨_, Arv.set Ar43 q43 S43 M43 H43 G43 rfl W43 0 rfl (Nat.le_of_ble_eq_true rfl)⟩
    have fc44 : OArr Z h43 b0_70 .int (2 : Int32) [(.int (0 : Int32)), (.int (0 : Int32))] (.int (0 : Int32)) := (V41.other W43 (Ne.symm ne_b0_64_b0_70))
    refine OEnd.go (g' := (mkF m 85 (la0_49 p0 p1 p2 p3 p4 b0_64 b0_70) [])) st43 ?_
    refine OEnd.go (T' := T43) (g' := (mkF m 90 (la0_49 p0 p1 p2 p3 p4 b0_64 b0_70) [(.int (v0_41 p0 p1 p2 p3 p4)), (.int (0 : Int32)), (.ref b0_70)])) (fun t k => ?_) ?_
    · show Steps p.tables e below (T43.setTop (mkF m 85 (la0_49 p0 p1 p2 p3 p4 b0_64 b0_70) [])) t
      refine XS.aload X43.here hx rfl (hb hby at_85) rfl rfl ?_
      show Steps p.tables e below (T43.setTop (mkF m 87 (la0_49 p0 p1 p2 p3 p4 b0_64 b0_70) [(.ref b0_70)])) t
      refine XS.iconst X43.here hx rfl (hb hby at_87) ?_
      show Steps p.tables e below (T43.setTop (mkF m 88 (la0_49 p0 p1 p2 p3 p4 b0_64 b0_70) [(.int (0 : Int32)), (.ref b0_70)])) t
      refine XS.iload X43.here hx rfl (hb hby at_88) rfl ?_
      show Steps p.tables e below (T43.setTop (mkF m 90 (la0_49 p0 p1 p2 p3 p4 b0_64 b0_70) [(.int (v0_41 p0 p1 p2 p3 p4)), (.int (0 : Int32)), (.ref b0_70)])) t
      exact k
    obtain ⟨kc45, cl45, Ar45, q45, S45, M45, H45, G45⟩ := id fc44
    have hin45 : ¬ ((0 : Int32) < 0 ∨ cl45.slots.size ≤ ((0 : Int32)).toNatClampNeg) := inb_of S45 ⟨by decide, by decide⟩
    obtain ⟨T45, h45, X45, e45, W45, st45⟩ := stI X43 hx hZ e43 Ar45 (j := (0 : Int32)) hin45 (g := (mkF m 90 (la0_49 p0 p1 p2 p3 p4 b0_64 b0_70) [(.int (v0_41 p0 p1 p2 p3 p4)), (.int (0 : Int32)), (.ref b0_70)])) rfl rfl (hb hby at_90)
    have N45 := Fr.snoc X45 N43 gle_b0_70
    have Z45 : n0 ≤ h45.size := Nat.le_trans Z43 (Keep.of_wr W45).1
    have V45 : OArr Z h45 b0_70 .int (2 : Int32) [(.int (v0_41 p0 p1 p2 p3 p4)), (.int (0 : Int32))] (.int (0 : Int32)) := ⟨_, Arv.set Ar45 q45 S45 M45 H45 G45 rfl W45 0 rfl (Nat.le_of_ble_eq_true rfl)⟩
    have fc46 : OArr Z h45 b0_64 .int (2 : Int32) [(.int (v0_11 p0 p1 p2 p3 p4)), (.int (0 : Int32))] (.int (0 : Int32)) := (V43.other W45 ne_b0_64_b0_70)
    refine OEnd.go (g' := (mkF m 91 (la0_49 p0 p1 p2 p3 p4 b0_64 b0_70) [])) st45 ?_
    refine OEnd.go (T' := T45) (g' := (mkF m 102 (la0_49 p0 p1 p2 p3 p4 b0_64 b0_70) [(.int (v0_21 p0 p1 p2 p3 p4)), (.int (1 : Int32)), (.ref b0_64)])) (fun t k => ?_) ?_
    · show Steps p.tables e below (T45.setTop (mkF m 91 (la0_49 p0 p1 p2 p3 p4 b0_64 b0_70) [])) t
      refine XS.iload X45.here hx rfl (hb hby at_91) rfl ?_
      show Steps p.tables e below (T45.setTop (mkF m 93 (la0_49 p0 p1 p2 p3 p4 b0_64 b0_70) [(.int (2 : Int32))])) t
      refine XS.iconst X45.here hx rfl (hb hby at_93) ?_
      show Steps p.tables e below (T45.setTop (mkF m 94 (la0_49 p0 p1 p2 p3 p4 b0_64 b0_70) [(.int (1 : Int32)), (.int (2 : Int32))])) t
      refine XS.icmpNo X45.here hx rfl (hb hby at_94) rfl (tlt ((by decide))).2.2.2 ?_
      show Steps p.tables e below (T45.setTop (mkF m 97 (la0_49 p0 p1 p2 p3 p4 b0_64 b0_70) [])) t
      refine XS.aload X45.here hx rfl (hb hby at_97) rfl rfl ?_
      show Steps p.tables e below (T45.setTop (mkF m 99 (la0_49 p0 p1 p2 p3 p4 b0_64 b0_70) [(.ref b0_64)])) t
      refine XS.iconst X45.here hx rfl (hb hby at_99) ?_
      show Steps p.tables e below (T45.setTop (mkF m 100 (la0_49 p0 p1 p2 p3 p4 b0_64 b0_70) [(.int (1 : Int32)), (.ref b0_64)])) t
      refine XS.iload X45.here hx rfl (hb hby at_100) rfl ?_
      show Steps p.tables e below (T45.setTop (mkF m 102 (la0_49 p0 p1 p2 p3 p4 b0_64 b0_70) [(.int (v0_21 p0 p1 p2 p3 p4)), (.int (1 : Int32)), (.ref b0_64)])) t
      exact k
    obtain ⟨kc47, cl47, Ar47, q47, S47, M47, H47, G47⟩ := id fc46
    have hin47 : ¬ ((1 : Int32) < 0 ∨ cl47.slots.size ≤ ((1 : Int32)).toNatClampNeg) := inb_of S47 ⟨by decide, by decide⟩
    obtain ⟨T47, h47, X47, e47, W47, st47⟩ := stI X45 hx hZ e45 Ar47 (j := (1 : Int32)) hin47 (g := (mkF m 102 (la0_49 p0 p1 p2 p3 p4 b0_64 b0_70) [(.int (v0_21 p0 p1 p2 p3 p4)), (.int (1 : Int32)), (.ref b0_64)])) rfl rfl (hb hby at_102)
    have N47 := Fr.snoc X47 N45 gle_b0_64
    have Z47 : n0 ≤ h47.size := Nat.le_trans Z45 (Keep.of_wr W47).1
    have V47 : OArr Z h47 b0_64 .int (2 : Int32) [(.int (v0_11 p0 p1 p2 p3 p4)), (.int (v0_21 p0 p1 p2 p3 p4))] (.int (0 : Int32)) := ⟨_, Arv.set Ar47 q47 S47 M47 H47 G47 rfl W47 1 rfl (Nat.le_of_ble_eq_true rfl)⟩
    have fc48 : OArr Z h47 b0_70 .int (2 : Int32) [(.int (v0_41 p0 p1 p2 p3 p4)), (.int (0 : Int32))] (.int (0 : Int32)) := (V45.other W47 (Ne.symm ne_b0_64_b0_70))
    refine OEnd.go (g' := (mkF m 103 (la0_49 p0 p1 p2 p3 p4 b0_64 b0_70) [])) st47 ?_
    refine OEnd.go (T' := T47) (g' := (mkF m 108 (la0_49 p0 p1 p2 p3 p4 b0_64 b0_70) [(.int (v0_50 p0 p1 p2 p3 p4)), (.int (1 : Int32)), (.ref b0_70)])) (fun t k => ?_) ?_
    · show Steps p.tables e below (T47.setTop (mkF m 103 (la0_49 p0 p1 p2 p3 p4 b0_64 b0_70) [])) t
      refine XS.aload X47.here hx rfl (hb hby at_103) rfl rfl ?_
      show Steps p.tables e below (T47.setTop (mkF m 105 (la0_49 p0 p1 p2 p3 p4 b0_64 b0_70) [(.ref b0_70)])) t
      refine XS.iconst X47.here hx rfl (hb hby at_105) ?_
      show Steps p.tables e below (T47.setTop (mkF m 106 (la0_49 p0 p1 p2 p3 p4 b0_64 b0_70) [(.int (1 : Int32)), (.ref b0_70)])) t
      refine XS.iload X47.here hx rfl (hb hby at_106) rfl ?_
      show Steps p.tables e below (T47.setTop (mkF m 108 (la0_49 p0 p1 p2 p3 p4 b0_64 b0_70) [(.int (v0_50 p0 p1 p2 p3 p4)), (.int (1 : Int32)), (.ref b0_70)])) t
      exact k
    obtain ⟨kc49, cl49, Ar49, q49, S49, M49, H49, G49⟩ := id fc48
    have hin49 : ¬ ((1 : Int32) < 0 ∨ cl49.slots.size ≤ ((1 : Int32)).toNatClampNeg) := inb_of S49 ⟨by decide, by decide⟩
    obtain ⟨T49, h49, X49, e49, W49, st49⟩ := stI X47 hx hZ e47 Ar49 (j := (1 : Int32)) hin49 (g := (mkF m 108 (la0_49 p0 p1 p2 p3 p4 b0_64 b0_70) [(.int (v0_50 p0 p1 p2 p3 p4)), (.int (1 : Int32)), (.ref b0_70)])) rfl rfl (hb hby at_108)
    have N49 := Fr.snoc X49 N47 gle_b0_70
    have Z49 : n0 ≤ h49.size := Nat.le_trans Z47 (Keep.of_wr W49).1
    have V49 : OArr Z h49 b0_70 .int (2 : Int32) [(.int (v0_41 p0 p1 p2 p3 p4)), (.int (v0_50 p0 p1 p2 p3 p4))] (.int (0 : Int32)) := ⟨_, Arv.set Ar49 q49 S49 M49 H49 G49 rfl W49 1 rfl (Nat.le_of_ble_eq_true rfl)⟩
    have fc50 : OArr Z h49 b0_64 .int (2 : Int32) [(.int (v0_11 p0 p1 p2 p3 p4)), (.int (v0_21 p0 p1 p2 p3 p4))] (.int (0 : Int32)) := (V47.other W49 ne_b0_64_b0_70)
    refine OEnd.go (g' := (mkF m 109 (la0_49 p0 p1 p2 p3 p4 b0_64 b0_70) [])) st49 ?_
    refine OEnd.go (T' := T49) (g' := (mkF m 239 (la0_57 p0 p1 p2 p3 p4 b0_64 b0_70) [(.ref b0_64), (.ref b0_70)])) (fun t k => ?_) ?_
    · show Steps p.tables e below (T49.setTop (mkF m 109 (la0_49 p0 p1 p2 p3 p4 b0_64 b0_70) [])) t
      refine XS.iload X49.here hx rfl (hb hby at_109) rfl ?_
      show Steps p.tables e below (T49.setTop (mkF m 111 (la0_49 p0 p1 p2 p3 p4 b0_64 b0_70) [(.int (2 : Int32))])) t
      refine XS.iconst X49.here hx rfl (hb hby at_111) ?_
      show Steps p.tables e below (T49.setTop (mkF m 112 (la0_49 p0 p1 p2 p3 p4 b0_64 b0_70) [(.int (2 : Int32)), (.int (2 : Int32))])) t
      refine XS.icmpYes X49.here hx rfl (pc0 := 112) (pc' := 127) rfl (hb hby at_112) rfl (flt ((by decide))).2.2.2 (by decide) (by decide) ?_
      show Steps p.tables e below (T49.setTop (mkF m 127 (la0_49 p0 p1 p2 p3 p4 b0_64 b0_70) [])) t
      refine XS.iload X49.here hx rfl (hb hby at_127) rfl ?_
      show Steps p.tables e below (T49.setTop (mkF m 129 (la0_49 p0 p1 p2 p3 p4 b0_64 b0_70) [(.int (2 : Int32))])) t
      refine XS.ifNo X49.here hx rfl (hb hby at_129) rfl ((if0 _ _).trans (tlt ((by decide))).2.2.2) ?_
      show Steps p.tables e below (T49.setTop (mkF m 132 (la0_49 p0 p1 p2 p3 p4 b0_64 b0_70) [])) t
      refine XS.iload X49.here hx rfl (hb hby at_132) rfl ?_
      show Steps p.tables e below (T49.setTop (mkF m 134 (la0_49 p0 p1 p2 p3 p4 b0_64 b0_70) [(.int (v0_11 p0 p1 p2 p3 p4))])) t
      refine XS.goto X49.here hx rfl (pc0 := 134) (pc' := 138) rfl (hb hby at_134) (by decide) (by decide) ?_
      show Steps p.tables e below (T49.setTop (mkF m 138 (la0_49 p0 p1 p2 p3 p4 b0_64 b0_70) [(.int (v0_11 p0 p1 p2 p3 p4))])) t
      refine XS.istore X49.here hx rfl (hb hby at_138) rfl (l' := (la0_50 p0 p1 p2 p3 p4 b0_64 b0_70)) rfl ?_
      show Steps p.tables e below (T49.setTop (mkF m 140 (la0_50 p0 p1 p2 p3 p4 b0_64 b0_70) [])) t
      refine XS.iload X49.here hx rfl (hb hby at_140) rfl ?_
      show Steps p.tables e below (T49.setTop (mkF m 142 (la0_50 p0 p1 p2 p3 p4 b0_64 b0_70) [(.int (2 : Int32))])) t
      refine XS.iconst X49.here hx rfl (hb hby at_142) ?_
      show Steps p.tables e below (T49.setTop (mkF m 143 (la0_50 p0 p1 p2 p3 p4 b0_64 b0_70) [(.int (1 : Int32)), (.int (2 : Int32))])) t
      refine XS.icmpNo X49.here hx rfl (hb hby at_143) rfl (tlt ((by decide))).2.2.2 ?_
      show Steps p.tables e below (T49.setTop (mkF m 146 (la0_50 p0 p1 p2 p3 p4 b0_64 b0_70) [])) t
      refine XS.iload X49.here hx rfl (hb hby at_146) rfl ?_
      show Steps p.tables e below (T49.setTop (mkF m 148 (la0_50 p0 p1 p2 p3 p4 b0_64 b0_70) [(.int (v0_21 p0 p1 p2 p3 p4))])) t
      refine XS.goto X49.here hx rfl (pc0 := 148) (pc' := 152) rfl (hb hby at_148) (by decide) (by decide) ?_
      show Steps p.tables e below (T49.setTop (mkF m 152 (la0_50 p0 p1 p2 p3 p4 b0_64 b0_70) [(.int (v0_21 p0 p1 p2 p3 p4))])) t
      refine XS.istore X49.here hx rfl (hb hby at_152) rfl (l' := (la0_51 p0 p1 p2 p3 p4 b0_64 b0_70)) rfl ?_
      show Steps p.tables e below (T49.setTop (mkF m 154 (la0_51 p0 p1 p2 p3 p4 b0_64 b0_70) [])) t
      refine XS.iload X49.here hx rfl (hb hby at_154) rfl ?_
      show Steps p.tables e below (T49.setTop (mkF m 156 (la0_51 p0 p1 p2 p3 p4 b0_64 b0_70) [(.int (2 : Int32))])) t
      refine XS.iconst X49.here hx rfl (hb hby at_156) ?_
      show Steps p.tables e below (T49.setTop (mkF m 157 (la0_51 p0 p1 p2 p3 p4 b0_64 b0_70) [(.int (2 : Int32)), (.int (2 : Int32))])) t
      refine XS.icmpYes X49.here hx rfl (pc0 := 157) (pc' := 165) rfl (hb hby at_157) rfl (flt ((by decide))).2.2.2 (by decide) (by decide) ?_
      show Steps p.tables e below (T49.setTop (mkF m 165 (la0_51 p0 p1 p2 p3 p4 b0_64 b0_70) [])) t
      refine XS.iconst X49.here hx rfl (hb hby at_165) ?_
      show Steps p.tables e below (T49.setTop (mkF m 166 (la0_51 p0 p1 p2 p3 p4 b0_64 b0_70) [(.int (1 : Int32))])) t
      refine XS.istore X49.here hx rfl (hb hby at_166) rfl (l' := (la0_52 p0 p1 p2 p3 p4 b0_64 b0_70)) rfl ?_
      show Steps p.tables e below (T49.setTop (mkF m 168 (la0_52 p0 p1 p2 p3 p4 b0_64 b0_70) [])) t
      refine XS.iload X49.here hx rfl (hb hby at_168) rfl ?_
      show Steps p.tables e below (T49.setTop (mkF m 170 (la0_52 p0 p1 p2 p3 p4 b0_64 b0_70) [(.int (2 : Int32))])) t
      refine XS.ifNo X49.here hx rfl (hb hby at_170) rfl ((if0 _ _).trans (tlt ((by decide))).2.2.2) ?_
      show Steps p.tables e below (T49.setTop (mkF m 173 (la0_52 p0 p1 p2 p3 p4 b0_64 b0_70) [])) t
      refine XS.iload X49.here hx rfl (hb hby at_173) rfl ?_
      show Steps p.tables e below (T49.setTop (mkF m 175 (la0_52 p0 p1 p2 p3 p4 b0_64 b0_70) [(.int (v0_41 p0 p1 p2 p3 p4))])) t
      refine XS.goto X49.here hx rfl (pc0 := 175) (pc' := 179) rfl (hb hby at_175) (by decide) (by decide) ?_
      show Steps p.tables e below (T49.setTop (mkF m 179 (la0_52 p0 p1 p2 p3 p4 b0_64 b0_70) [(.int (v0_41 p0 p1 p2 p3 p4))])) t
      refine XS.istore X49.here hx rfl (hb hby at_179) rfl (l' := (la0_53 p0 p1 p2 p3 p4 b0_64 b0_70)) rfl ?_
      show Steps p.tables e below (T49.setTop (mkF m 181 (la0_53 p0 p1 p2 p3 p4 b0_64 b0_70) [])) t
      refine XS.iload X49.here hx rfl (hb hby at_181) rfl ?_
      show Steps p.tables e below (T49.setTop (mkF m 183 (la0_53 p0 p1 p2 p3 p4 b0_64 b0_70) [(.int (2 : Int32))])) t
      refine XS.iconst X49.here hx rfl (hb hby at_183) ?_
      show Steps p.tables e below (T49.setTop (mkF m 184 (la0_53 p0 p1 p2 p3 p4 b0_64 b0_70) [(.int (1 : Int32)), (.int (2 : Int32))])) t
      refine XS.icmpNo X49.here hx rfl (hb hby at_184) rfl (tlt ((by decide))).2.2.2 ?_
      show Steps p.tables e below (T49.setTop (mkF m 187 (la0_53 p0 p1 p2 p3 p4 b0_64 b0_70) [])) t
      refine XS.iload X49.here hx rfl (hb hby at_187) rfl ?_
      show Steps p.tables e below (T49.setTop (mkF m 189 (la0_53 p0 p1 p2 p3 p4 b0_64 b0_70) [(.int (v0_50 p0 p1 p2 p3 p4))])) t
      refine XS.goto X49.here hx rfl (pc0 := 189) (pc' := 193) rfl (hb hby at_189) (by decide) (by decide) ?_
      show Steps p.tables e below (T49.setTop (mkF m 193 (la0_53 p0 p1 p2 p3 p4 b0_64 b0_70) [(.int (v0_50 p0 p1 p2 p3 p4))])) t
      refine XS.istore X49.here hx rfl (hb hby at_193) rfl (l' := (la0_54 p0 p1 p2 p3 p4 b0_64 b0_70)) rfl ?_
      show Steps p.tables e below (T49.setTop (mkF m 195 (la0_54 p0 p1 p2 p3 p4 b0_64 b0_70) [])) t
      refine XS.iload X49.here hx rfl (hb hby at_195) rfl ?_
      show Steps p.tables e below (T49.setTop (mkF m 197 (la0_54 p0 p1 p2 p3 p4 b0_64 b0_70) [(.int (2 : Int32))])) t
      refine XS.iconst X49.here hx rfl (hb hby at_197) ?_
      show Steps p.tables e below (T49.setTop (mkF m 198 (la0_54 p0 p1 p2 p3 p4 b0_64 b0_70) [(.int (2 : Int32)), (.int (2 : Int32))])) t
      refine XS.icmpYes X49.here hx rfl (pc0 := 198) (pc' := 206) rfl (hb hby at_198) rfl (flt ((by decide))).2.2.2 (by decide) (by decide) ?_
      show Steps p.tables e below (T49.setTop (mkF m 206 (la0_54 p0 p1 p2 p3 p4 b0_64 b0_70) [])) t
      refine XS.iconst X49.here hx rfl (hb hby at_206) ?_
      show Steps p.tables e below (T49.setTop (mkF m 207 (la0_54 p0 p1 p2 p3 p4 b0_64 b0_70) [(.int (0 : Int32))])) t
      refine XS.istore X49.here hx rfl (hb hby at_207) rfl (l' := (la0_55 p0 p1 p2 p3 p4 b0_64 b0_70)) rfl ?_
      show Steps p.tables e below (T49.setTop (mkF m 209 (la0_55 p0 p1 p2 p3 p4 b0_64 b0_70) [])) t
      refine XS.iload X49.here hx rfl (hb hby at_209) rfl ?_
      show Steps p.tables e below (T49.setTop (mkF m 211 (la0_55 p0 p1 p2 p3 p4 b0_64 b0_70) [(.int (v0_11 p0 p1 p2 p3 p4))])) t
      refine XS.iload X49.here hx rfl (hb hby at_211) rfl ?_
      show Steps p.tables e below (T49.setTop (mkF m 213 (la0_55 p0 p1 p2 p3 p4 b0_64 b0_70) [(.int (v0_21 p0 p1 p2 p3 p4)), (.int (v0_11 p0 p1 p2 p3 p4))])) t
      refine XS.imul X49.here hx rfl (hb hby at_213) rfl ?_
      show Steps p.tables e below (T49.setTop (mkF m 214 (la0_55 p0 p1 p2 p3 p4 b0_64 b0_70) [(.int ((v0_11 p0 p1 p2 p3 p4) * (v0_21 p0 p1 p2 p3 p4)))])) t
      refine XS.iload X49.here hx rfl (hb hby at_214) rfl ?_
      show Steps p.tables e below (T49.setTop (mkF m 216 (la0_55 p0 p1 p2 p3 p4 b0_64 b0_70) [(.int (1 : Int32)), (.int ((v0_11 p0 p1 p2 p3 p4) * (v0_21 p0 p1 p2 p3 p4)))])) t
      refine XS.imul X49.here hx rfl (hb hby at_216) rfl ?_
      show Steps p.tables e below (T49.setTop (mkF m 217 (la0_55 p0 p1 p2 p3 p4 b0_64 b0_70) [(.int (((v0_11 p0 p1 p2 p3 p4) * (v0_21 p0 p1 p2 p3 p4)) * (1 : Int32)))])) t
      refine XS.istore X49.here hx rfl (hb hby at_217) rfl (l' := (la0_56 p0 p1 p2 p3 p4 b0_64 b0_70)) rfl ?_
      show Steps p.tables e below (T49.setTop (mkF m 219 (la0_56 p0 p1 p2 p3 p4 b0_64 b0_70) [])) t
      refine XS.iload X49.here hx rfl (hb hby at_219) rfl ?_
      show Steps p.tables e below (T49.setTop (mkF m 221 (la0_56 p0 p1 p2 p3 p4 b0_64 b0_70) [(.int (v0_41 p0 p1 p2 p3 p4))])) t
      refine XS.iload X49.here hx rfl (hb hby at_221) rfl ?_
      show Steps p.tables e below (T49.setTop (mkF m 223 (la0_56 p0 p1 p2 p3 p4 b0_64 b0_70) [(.int (v0_11 p0 p1 p2 p3 p4)), (.int (v0_41 p0 p1 p2 p3 p4))])) t
      refine XS.iload X49.here hx rfl (hb hby at_223) rfl ?_
      show Steps p.tables e below (T49.setTop (mkF m 225 (la0_56 p0 p1 p2 p3 p4 b0_64 b0_70) [(.int (v0_50 p0 p1 p2 p3 p4)), (.int (v0_11 p0 p1 p2 p3 p4)), (.int (v0_41 p0 p1 p2 p3 p4))])) t
      refine XS.iload X49.here hx rfl (hb hby at_225) rfl ?_
      show Steps p.tables e below (T49.setTop (mkF m 227 (la0_56 p0 p1 p2 p3 p4 b0_64 b0_70) [(.int (v0_21 p0 p1 p2 p3 p4)), (.int (v0_50 p0 p1 p2 p3 p4)), (.int (v0_11 p0 p1 p2 p3 p4)), (.int (v0_41 p0 p1 p2 p3 p4))])) t
      refine XS.iload X49.here hx rfl (hb hby at_227) rfl ?_
      show Steps p.tables e below (T49.setTop (mkF m 229 (la0_56 p0 p1 p2 p3 p4 b0_64 b0_70) [(.int (0 : Int32)), (.int (v0_21 p0 p1 p2 p3 p4)), (.int (v0_50 p0 p1 p2 p3 p4)), (.int (v0_11 p0 p1 p2 p3 p4)), (.int (v0_41 p0 p1 p2 p3 p4))])) t
      refine XS.imul X49.here hx rfl (hb hby at_229) rfl ?_
      show Steps p.tables e below (T49.setTop (mkF m 230 (la0_56 p0 p1 p2 p3 p4 b0_64 b0_70) [(.int ((v0_21 p0 p1 p2 p3 p4) * (0 : Int32))), (.int (v0_50 p0 p1 p2 p3 p4)), (.int (v0_11 p0 p1 p2 p3 p4)), (.int (v0_41 p0 p1 p2 p3 p4))])) t
      refine XS.iadd X49.here hx rfl (hb hby at_230) rfl ?_
      show Steps p.tables e below (T49.setTop (mkF m 231 (la0_56 p0 p1 p2 p3 p4 b0_64 b0_70) [(.int ((v0_50 p0 p1 p2 p3 p4) + ((v0_21 p0 p1 p2 p3 p4) * (0 : Int32)))), (.int (v0_11 p0 p1 p2 p3 p4)), (.int (v0_41 p0 p1 p2 p3 p4))])) t
      refine XS.imul X49.here hx rfl (hb hby at_231) rfl ?_
      show Steps p.tables e below (T49.setTop (mkF m 232 (la0_56 p0 p1 p2 p3 p4 b0_64 b0_70) [(.int ((v0_11 p0 p1 p2 p3 p4) * ((v0_50 p0 p1 p2 p3 p4) + ((v0_21 p0 p1 p2 p3 p4) * (0 : Int32))))), (.int (v0_41 p0 p1 p2 p3 p4))])) t
      refine XS.iadd X49.here hx rfl (hb hby at_232) rfl ?_
      show Steps p.tables e below (T49.setTop (mkF m 233 (la0_56 p0 p1 p2 p3 p4 b0_64 b0_70) [(.int ((v0_41 p0 p1 p2 p3 p4) + ((v0_11 p0 p1 p2 p3 p4) * ((v0_50 p0 p1 p2 p3 p4) + ((v0_21 p0 p1 p2 p3 p4) * (0 : Int32))))))])) t
      refine XS.istore X49.here hx rfl (hb hby at_233) rfl (l' := (la0_57 p0 p1 p2 p3 p4 b0_64 b0_70)) rfl ?_
      show Steps p.tables e below (T49.setTop (mkF m 235 (la0_57 p0 p1 p2 p3 p4 b0_64 b0_70) [])) t
      refine XS.aload X49.here hx rfl (hb hby at_235) rfl rfl ?_
      show Steps p.tables e below (T49.setTop (mkF m 237 (la0_57 p0 p1 p2 p3 p4 b0_64 b0_70) [(.ref b0_70)])) t
      refine XS.aload X49.here hx rfl (hb hby at_237) rfl rfl ?_
      show Steps p.tables e below (T49.setTop (mkF m 239 (la0_57 p0 p1 p2 p3 p4 b0_64 b0_70) [(.ref b0_64), (.ref b0_70)])) t
      exact k
    obtain ⟨_, _, ⟨T51, L51, k51, n51⟩, -, X51, ⟨Lc51, hQ51, l51, y51, z51⟩, st51⟩ := Jvm.LawKit.callS X49 hx (y := (⟨"com/example/assentor/assentor/check/Odometer", "advance", "([I[I)Z"⟩ : MethodName)) hown (mvT hZ (hw _ (List.mem_of_getElem? (i := 2) rfl))) (mvT hZ (hw _ (List.mem_of_getElem? (i := 3) rfl))) (mvT hZ (hw _ (List.mem_of_getElem? (i := 4) rfl))) (mvT hZ (hw _ (List.mem_of_getElem? (i := 5) rfl))) (by decide) (backOf (W := 0) (rm1_2 l Z aZ hw [] b0_70 b0_64 (v0_41 p0 p1 p2 p3 p4) (v0_50 p0 p1 p2 p3 p4) (v0_11 p0 p1 p2 p3 p4) (v0_21 p0 p1 p2 p3 p4) h49 n0 Z49 V49 fc50 (Ne.symm ne_b0_64_b0_70) gle_b0_70) hZ (hw _ (List.mem_of_getElem? (i := 5) rfl)) (hw _ (List.mem_of_getElem? (i := 4) rfl)) (by decide) (by decide)) (g := (mkF m 239 (la0_57 p0 p1 p2 p3 p4 b0_64 b0_70) [(.ref b0_64), (.ref b0_70)])) rfl (by rw [hml]; rfl) (argsL := [(.ref b0_70), (.ref b0_64)]) (rest := []) (lenOf pd___I_I_Z rfl) rfl (by show 2 * 0 + _ ≤ _; exact Nat.le_of_eq rfl) (hb hby at_239) (fun _ _ => ⟨rfl, e49, (by decide : 2 + 0 ≤ _), (by decide : 4 + 0 ≤ _)⟩)
    dsimp only [Pt.U, Pt.locs, Pt.cells, Pt.slots] at X51 l51 y51 z51 st51 hQ51
    subst l51 y51 z51
    obtain ⟨rfl, N51q, u51_0, u51_1⟩ := hQ51
    have N51 := Fr.app N49 N51q
    have Z51 : n0 ≤ T51.heap.size := Nat.le_trans Z49 u51_0.1
    have fc52 : OArr Z T51.heap b0_64 .int (2 : Int32) [(.int (v0_11 p0 p1 p2 p3 p4)), (.int (v0_21 p0 p1 p2 p3 p4))] (.int (0 : Int32)) := (fc50.keep u51_0 (ninS ne_b0_64_b0_70 nin0))
    refine OEnd.go (g' := (mkF m 242 (la0_57 p0 p1 p2 p3 p4 b0_64 b0_70) [(.int (f1_2 (v0_41 p0 p1 p2 p3 p4) (v0_50 p0 p1 p2 p3 p4) (v0_11 p0 p1 p2 p3 p4) (v0_21 p0 p1 p2 p3 p4)))])) st51 ?_
    refine OEnd.go (T' := T51) (g' := (mkF m 252 (la0_58 p0 p1 p2 p3 p4 b0_64 b0_70) [(.int (0 : Int32)), (.ref b0_70)])) (fun t k => ?_) ?_
    · show Steps p.tables e below (T51.setTop (mkF m 242 (la0_57 p0 p1 p2 p3 p4 b0_64 b0_70) [(.int (f1_2 (v0_41 p0 p1 p2 p3 p4) (v0_50 p0 p1 p2 p3 p4) (v0_11 p0 p1 p2 p3 p4) (v0_21 p0 p1 p2 p3 p4)))])) t
      refine XS.istore X51.here hx rfl (hb hby at_242) rfl (l' := (la0_58 p0 p1 p2 p3 p4 b0_64 b0_70)) rfl ?_
      show Steps p.tables e below (T51.setTop (mkF m 244 (la0_58 p0 p1 p2 p3 p4 b0_64 b0_70) [])) t
      refine XS.iload X51.here hx rfl (hb hby at_244) rfl ?_
      show Steps p.tables e below (T51.setTop (mkF m 246 (la0_58 p0 p1 p2 p3 p4 b0_64 b0_70) [(.int (2 : Int32))])) t
      refine XS.ifNo X51.here hx rfl (hb hby at_246) rfl ((if0 _ _).trans (tlt ((by decide))).2.2.2) ?_
      show Steps p.tables e below (T51.setTop (mkF m 249 (la0_58 p0 p1 p2 p3 p4 b0_64 b0_70) [])) t
      refine XS.aload X51.here hx rfl (hb hby at_249) rfl rfl ?_
      show Steps p.tables e below (T51.setTop (mkF m 251 (la0_58 p0 p1 p2 p3 p4 b0_64 b0_70) [(.ref b0_70)])) t
      refine XS.iconst X51.here hx rfl (hb hby at_251) ?_
      show Steps p.tables e below (T51.setTop (mkF m 252 (la0_58 p0 p1 p2 p3 p4 b0_64 b0_70) [(.int (0 : Int32)), (.ref b0_70)])) t
      exact k
    obtain ⟨kc53, cl53, Ar53, q53, S53, M53, H53, G53⟩ := id u51_1
    have hin53 : ¬ ((0 : Int32) < 0 ∨ cl53.slots.size ≤ ((0 : Int32)).toNatClampNeg) := inb_of S53 ⟨by decide, by decide⟩
    have hat53 : cl53.slots[((0 : Int32)).toNatClampNeg]? = some (.int (if ((v0_41 p0 p1 p2 p3 p4) + (1 : Int32)) < (v0_11 p0 p1 p2 p3 p4) then ((v0_41 p0 p1 p2 p3 p4) + (1 : Int32)) else (0 : Int32))) := Has.at H53 hin53 rfl
    refine OEnd.go (T' := T51) (g' := (mkF m 253 (la0_58 p0 p1 p2 p3 p4 b0_64 b0_70) [(.int (if ((v0_41 p0 p1 p2 p3 p4) + (1 : Int32)) < (v0_11 p0 p1 p2 p3 p4) then ((v0_41 p0 p1 p2 p3 p4) + (1 : Int32)) else (0 : Int32)))])) (fun t k => ?_) ?_
    · refine X51.iaload hx (j := (0 : Int32)) (v := (.int (if ((v0_41 p0 p1 p2 p3 p4) + (1 : Int32)) < (v0_11 p0 p1 p2 p3 p4) then ((v0_41 p0 p1 p2 p3 p4) + (1 : Int32)) else (0 : Int32)))) Ar53.1 (State.isArrayOf_alike hZ.alike Ar53.2.1) Ar53.2.2 hin53 hat53 (g := (mkF m 252 (la0_58 p0 p1 p2 p3 p4 b0_64 b0_70) [(.int (0 : Int32)), (.ref b0_70)])) rfl rfl (hb hby at_252) _ ?_
      exact k
    refine OEnd.go (T' := T51) (g' := (mkF m 268 (la0_59 p0 p1 p2 p3 p4 b0_64 b0_70) [(.int (1 : Int32)), (.ref b0_70)])) (fun t k => ?_) ?_
    · show Steps p.tables e below (T51.setTop (mkF m 253 (la0_58 p0 p1 p2 p3 p4 b0_64 b0_70) [(.int (if ((v0_41 p0 p1 p2 p3 p4) + (1 : Int32)) < (v0_11 p0 p1 p2 p3 p4) then ((v0_41 p0 p1 p2 p3 p4) + (1 : Int32)) else (0 : Int32)))])) t
      refine XS.goto X51.here hx rfl (pc0 := 253) (pc' := 257) rfl (hb hby at_253) (by decide) (by decide) ?_
      show Steps p.tables e below (T51.setTop (mkF m 257 (la0_58 p0 p1 p2 p3 p4 b0_64 b0_70) [(.int (if ((v0_41 p0 p1 p2 p3 p4) + (1 : Int32)) < (v0_11 p0 p1 p2 p3 p4) then ((v0_41 p0 p1 p2 p3 p4) + (1 : Int32)) else (0 : Int32)))])) t
      refine XS.istore X51.here hx rfl (hb hby at_257) rfl (l' := (la0_59 p0 p1 p2 p3 p4 b0_64 b0_70)) rfl ?_
      show Steps p.tables e below (T51.setTop (mkF m 259 (la0_59 p0 p1 p2 p3 p4 b0_64 b0_70) [])) t
      refine XS.iload X51.here hx rfl (hb hby at_259) rfl ?_
      show Steps p.tables e below (T51.setTop (mkF m 261 (la0_59 p0 p1 p2 p3 p4 b0_64 b0_70) [(.int (2 : Int32))])) t
      refine XS.iconst X51.here hx rfl (hb hby at_261) ?_
      show Steps p.tables e below (T51.setTop (mkF m 262 (la0_59 p0 p1 p2 p3 p4 b0_64 b0_70) [(.int (1 : Int32)), (.int (2 : Int32))])) t
      refine XS.icmpNo X51.here hx rfl (hb hby at_262) rfl (tlt ((by decide))).2.2.2 ?_
      show Steps p.tables e below (T51.setTop (mkF m 265 (la0_59 p0 p1 p2 p3 p4 b0_64 b0_70) [])) t
      refine XS.aload X51.here hx rfl (hb hby at_265) rfl rfl ?_
      show Steps p.tables e below (T51.setTop (mkF m 267 (la0_59 p0 p1 p2 p3 p4 b0_64 b0_70) [(.ref b0_70)])) t
      refine XS.iconst X51.here hx rfl (hb hby at_267) ?_
      show Steps p.tables e below (T51.setTop (mkF m 268 (la0_59 p0 p1 p2 p3 p4 b0_64 b0_70) [(.int (1 : Int32)), (.ref b0_70)])) t
      exact k
    obtain ⟨kc54, cl54, Ar54, q54, S54, M54, H54, G54⟩ := id u51_1
    have hin54 : ¬ ((1 : Int32) < 0 ∨ cl54.slots.size ≤ ((1 : Int32)).toNatClampNeg) := inb_of S54 ⟨by decide, by decide⟩
    have hat54 : cl54.slots[((1 : Int32)).toNatClampNeg]? = some (.int (if ((v0_41 p0 p1 p2 p3 p4) + (1 : Int32)) < (v0_11 p0 p1 p2 p3 p4) then (v0_50 p0 p1 p2 p3 p4) else (if ((v0_50 p0 p1 p2 p3 p4) + (1 : Int32)) < (v0_21 p0 p1 p2 p3 p4) then ((v0_50 p0 p1 p2 p3 p4) + (1 : Int32)) else (0 : Int32)))) := Has.at H54 hin54 rfl
    refine OEnd.go (T' := T51) (g' := (mkF m 269 (la0_59 p0 p1 p2 p3 p4 b0_64 b0_70) [(.int (if ((v0_41 p0 p1 p2 p3 p4) + (1 : Int32)) < (v0_11 p0 p1 p2 p3 p4) then (v0_50 p0 p1 p2 p3 p4) else (if ((v0_50 p0 p1 p2 p3 p4) + (1 : Int32)) < (v0_21 p0 p1 p2 p3 p4) then ((v0_50 p0 p1 p2 p3 p4) + (1 : Int32)) else (0 : Int32))))])) (fun t k => ?_) ?_
    · refine X51.iaload hx (j := (1 : Int32)) (v := (.int (if ((v0_41 p0 p1 p2 p3 p4) + (1 : Int32)) < (v0_11 p0 p1 p2 p3 p4) then (v0_50 p0 p1 p2 p3 p4) else (if ((v0_50 p0 p1 p2 p3 p4) + (1 : Int32)) < (v0_21 p0 p1 p2 p3 p4) then ((v0_50 p0 p1 p2 p3 p4) + (1 : Int32)) else (0 : Int32))))) Ar54.1 (State.isArrayOf_alike hZ.alike Ar54.2.1) Ar54.2.2 hin54 hat54 (g := (mkF m 268 (la0_59 p0 p1 p2 p3 p4 b0_64 b0_70) [(.int (1 : Int32)), (.ref b0_70)])) rfl rfl (hb hby at_268) _ ?_
      exact k
    refine OEnd.go (T' := T51) (g' := (mkF m 295 (la0_61 p0 p1 p2 p3 p4 b0_64 b0_70) [(.int (v0_11 p0 p1 p2 p3 p4)), (.int (v0_257 p0 p1 p2 p3 p4))])) (fun t k => ?_) ?_
    · show Steps p.tables e below (T51.setTop (mkF m 269 (la0_59 p0 p1 p2 p3 p4 b0_64 b0_70) [(.int (if ((v0_41 p0 p1 p2 p3 p4) + (1 : Int32)) < (v0_11 p0 p1 p2 p3 p4) then (v0_50 p0 p1 p2 p3 p4) else (if ((v0_50 p0 p1 p2 p3 p4) + (1 : Int32)) < (v0_21 p0 p1 p2 p3 p4) then ((v0_50 p0 p1 p2 p3 p4) + (1 : Int32)) else (0 : Int32))))])) t
      refine XS.goto X51.here hx rfl (pc0 := 269) (pc' := 273) rfl (hb hby at_269) (by decide) (by decide) ?_
      show Steps p.tables e below (T51.setTop (mkF m 273 (la0_59 p0 p1 p2 p3 p4 b0_64 b0_70) [(.int (if ((v0_41 p0 p1 p2 p3 p4) + (1 : Int32)) < (v0_11 p0 p1 p2 p3 p4) then (v0_50 p0 p1 p2 p3 p4) else (if ((v0_50 p0 p1 p2 p3 p4) + (1 : Int32)) < (v0_21 p0 p1 p2 p3 p4) then ((v0_50 p0 p1 p2 p3 p4) + (1 : Int32)) else (0 : Int32))))])) t
      refine XS.istore X51.here hx rfl (hb hby at_273) rfl (l' := (la0_60 p0 p1 p2 p3 p4 b0_64 b0_70)) rfl ?_
      show Steps p.tables e below (T51.setTop (mkF m 275 (la0_60 p0 p1 p2 p3 p4 b0_64 b0_70) [])) t
      refine XS.iload X51.here hx rfl (hb hby at_275) rfl ?_
      show Steps p.tables e below (T51.setTop (mkF m 277 (la0_60 p0 p1 p2 p3 p4 b0_64 b0_70) [(.int (2 : Int32))])) t
      refine XS.iconst X51.here hx rfl (hb hby at_277) ?_
      show Steps p.tables e below (T51.setTop (mkF m 278 (la0_60 p0 p1 p2 p3 p4 b0_64 b0_70) [(.int (2 : Int32)), (.int (2 : Int32))])) t
      refine XS.icmpYes X51.here hx rfl (pc0 := 278) (pc' := 288) rfl (hb hby at_278) rfl (flt ((by decide))).2.2.2 (by decide) (by decide) ?_
      show Steps p.tables e below (T51.setTop (mkF m 288 (la0_60 p0 p1 p2 p3 p4 b0_64 b0_70) [])) t
      refine XS.iconst X51.here hx rfl (hb hby at_288) ?_
      show Steps p.tables e below (T51.setTop (mkF m 289 (la0_60 p0 p1 p2 p3 p4 b0_64 b0_70) [(.int (0 : Int32))])) t
      refine XS.istore X51.here hx rfl (hb hby at_289) rfl (l' := (la0_61 p0 p1 p2 p3 p4 b0_64 b0_70)) rfl ?_
      show Steps p.tables e below (T51.setTop (mkF m 291 (la0_61 p0 p1 p2 p3 p4 b0_64 b0_70) [])) t
      refine XS.iload X51.here hx rfl (hb hby at_291) rfl ?_
      show Steps p.tables e below (T51.setTop (mkF m 293 (la0_61 p0 p1 p2 p3 p4 b0_64 b0_70) [(.int (v0_257 p0 p1 p2 p3 p4))])) t
      refine XS.iload X51.here hx rfl (hb hby at_293) rfl ?_
      show Steps p.tables e below (T51.setTop (mkF m 295 (la0_61 p0 p1 p2 p3 p4 b0_64 b0_70) [(.int (v0_11 p0 p1 p2 p3 p4)), (.int (v0_257 p0 p1 p2 p3 p4))])) t
      exact k
    obtain ⟨_, _, ⟨T55, L55, k55, n55⟩, -, X55, ⟨Lc55, hQ55, l55, y55, z55⟩, st55⟩ := Jvm.LawKit.callS X51 hx (y := (⟨"com/example/assentor/assentor/check/OdometerAdvancePinLaw", "inRange", "(II)Z"⟩ : MethodName)) hown (mvT hZ (hw _ (List.mem_of_getElem? (i := 6) rfl))) (mvT hZ (hw _ (List.mem_of_getElem? (i := 7) rfl))) (mvT hZ (hw _ (List.mem_of_getElem? (i := 8) rfl))) (mvT hZ (hw _ (List.mem_of_getElem? (i := 9) rfl))) (by decide) (backOf (W := 0) (rm2 l Z aZ hw [] (v0_257 p0 p1 p2 p3 p4) (v0_11 p0 p1 p2 p3 p4) T51.heap n0 Z51 ) hZ (hw _ (List.mem_of_getElem? (i := 9) rfl)) (hw _ (List.mem_of_getElem? (i := 8) rfl)) (by decide) (by decide)) (g := (mkF m 295 (la0_61 p0 p1 p2 p3 p4 b0_64 b0_70) [(.int (v0_11 p0 p1 p2 p3 p4)), (.int (v0_257 p0 p1 p2 p3 p4))])) rfl (by rw [hml]; rfl) (argsL := [(.int (v0_257 p0 p1 p2 p3 p4)), (.int (v0_11 p0 p1 p2 p3 p4))]) (rest := []) (lenOf pd__II_Z rfl) rfl (by show 2 * 0 + _ ≤ _; exact Nat.le_of_eq rfl) (hb hby at_295) (fun _ _ => ⟨rfl, rfl, (by decide : 2 + 0 ≤ _), (by decide : 4 + 0 ≤ _)⟩)
    dsimp only [Pt.U, Pt.locs, Pt.cells, Pt.slots] at X55 l55 y55 z55 st55 hQ55
    subst l55 y55 z55
    obtain ⟨rfl, N55q, e55⟩ := hQ55
    have N55 := Fr.app N51 N55q
    refine OEnd.go (g' := (mkF m 298 (la0_61 p0 p1 p2 p3 p4 b0_64 b0_70) [(.int (f2 (v0_257 p0 p1 p2 p3 p4) (v0_11 p0 p1 p2 p3 p4)))])) st55 ?_
    obtain ⟨T57, L57, X57, e57, N57, st57⟩ : ORch p l e room_1 s m #[(.int p0), (.int p1), (.int p2), (.int p3), (.int p4)] below meth c n0 T55 (mkF m 298 (la0_61 p0 p1 p2 p3 p4 b0_64 b0_70) [(.int (f2 (v0_257 p0 p1 p2 p3 p4) (v0_11 p0 p1 p2 p3 p4)))]) T51.heap (mkF m 326 (la0_61 p0 p1 p2 p3 p4 b0_64 b0_70) [(.int (if (f2 (v0_257 p0 p1 p2 p3 p4) (v0_11 p0 p1 p2 p3 p4)) = (0 : Int32) then (0 : Int32) else (if (f2 (v0_273 p0 p1 p2 p3 p4) (v0_21 p0 p1 p2 p3 p4)) = (0 : Int32) then (0 : Int32) else (if (f2 (0 : Int32) (1 : Int32)) = (0 : Int32) then (0 : Int32) else (1 : Int32)))))]) 2 4 := by
      by_cases hc56 : (f2 (v0_257 p0 p1 p2 p3 p4) (v0_11 p0 p1 p2 p3 p4)) = (0 : Int32)
      · skip
        refine ORch.go (T' := T55) (g' := (mkF m 325 (la0_61 p0 p1 p2 p3 p4 b0_64 b0_70) [])) (fun t k => ?_) ?_
        · show Steps p.tables e below (T55.setTop (mkF m 298 (la0_61 p0 p1 p2 p3 p4 b0_64 b0_70) [(.int (f2 (v0_257 p0 p1 p2 p3 p4) (v0_11 p0 p1 p2 p3 p4)))])) t
          refine XS.ifYes X55.here hx rfl (pc0 := 298) (pc' := 325) rfl (hb hby at_298) rfl ((if0 _ _).trans (teq (hc56)).1) (by decide) (by decide) ?_
          show Steps p.tables e below (T55.setTop (mkF m 325 (la0_61 p0 p1 p2 p3 p4 b0_64 b0_70) [])) t
          exact k
        refine ORch.go (T' := T55) (g' := (mkF m 326 (la0_61 p0 p1 p2 p3 p4 b0_64 b0_70) [(.int (0 : Int32))])) (fun t k => ?_) ?_
        · show Steps p.tables e below (T55.setTop (mkF m 325 (la0_61 p0 p1 p2 p3 p4 b0_64 b0_70) [])) t
          refine XS.iconst X55.here hx rfl (hb hby at_325) ?_
          show Steps p.tables e below (T55.setTop (mkF m 326 (la0_61 p0 p1 p2 p3 p4 b0_64 b0_70) [(.int (0 : Int32))])) t
          exact k
        exact ⟨_, _, X55, e55, N55, fun t k => (own_k (f := fun (z : Int32) => mkF m 326 #[.val (.int p0), .val (.int p1), .val (.int p2), .val (.int p3), .val (.int p4), .val (.int (2 : Int32)), .val (.int (v0_11 p0 p1 p2 p3 p4)), .val (.int (v0_21 p0 p1 p2 p3 p4)), .val (.int (v0_32 p0 p1 p2 p3 p4)), .val (.int (v0_41 p0 p1 p2 p3 p4)), .val (.int (v0_50 p0 p1 p2 p3 p4)), .val (.int (v0_60 p0 p1 p2 p3 p4)), .val (.ref b0_64), .val (.ref b0_70), .val (.int (v0_11 p0 p1 p2 p3 p4)), .val (.int (v0_21 p0 p1 p2 p3 p4)), .val (.int (1 : Int32)), .val (.int (v0_41 p0 p1 p2 p3 p4)), .val (.int (v0_50 p0 p1 p2 p3 p4)), .val (.int (0 : Int32)), .val (.int (v0_217x p0 p1 p2 p3 p4)), .val (.int (v0_233x p0 p1 p2 p3 p4)), .val (.int (v0_242x p0 p1 p2 p3 p4)), .val (.int (v0_257 p0 p1 p2 p3 p4)), .val (.int (v0_273 p0 p1 p2 p3 p4)), .val (.int (0 : Int32)), .unset, .unset, .unset, .unset, .unset] [(.int z)]) (if_pos hc56) k)⟩
      · skip
        refine ORch.go (T' := T55) (g' := (mkF m 301 (la0_61 p0 p1 p2 p3 p4 b0_64 b0_70) [])) (fun t k => ?_) ?_
        · show Steps p.tables e below (T55.setTop (mkF m 298 (la0_61 p0 p1 p2 p3 p4 b0_64 b0_70) [(.int (f2 (v0_257 p0 p1 p2 p3 p4) (v0_11 p0 p1 p2 p3 p4)))])) t
          refine XS.ifNo X55.here hx rfl (hb hby at_298) rfl ((if0 _ _).trans (feq (hc56)).1) ?_
          show Steps p.tables e below (T55.setTop (mkF m 301 (la0_61 p0 p1 p2 p3 p4 b0_64 b0_70) [])) t
          exact k
        refine ORch.go (T' := T55) (g' := (mkF m 305 (la0_61 p0 p1 p2 p3 p4 b0_64 b0_70) [(.int (v0_21 p0 p1 p2 p3 p4)), (.int (v0_273 p0 p1 p2 p3 p4))])) (fun t k => ?_) ?_
        · show Steps p.tables e below (T55.setTop (mkF m 301 (la0_61 p0 p1 p2 p3 p4 b0_64 b0_70) [])) t
          refine XS.iload X55.here hx rfl (hb hby at_301) rfl ?_
          show Steps p.tables e below (T55.setTop (mkF m 303 (la0_61 p0 p1 p2 p3 p4 b0_64 b0_70) [(.int (v0_273 p0 p1 p2 p3 p4))])) t
          refine XS.iload X55.here hx rfl (hb hby at_303) rfl ?_
          show Steps p.tables e below (T55.setTop (mkF m 305 (la0_61 p0 p1 p2 p3 p4 b0_64 b0_70) [(.int (v0_21 p0 p1 p2 p3 p4)), (.int (v0_273 p0 p1 p2 p3 p4))])) t
          exact k
        obtain ⟨_, _, ⟨T58, L58, k58, n58⟩, -, X58, ⟨Lc58, hQ58, l58, y58, z58⟩, st58⟩ := Jvm.LawKit.callS X55 hx (y := (⟨"com/example/assentor/assentor/check/OdometerAdvancePinLaw", "inRange", "(II)Z"⟩ : MethodName)) hown (mvT hZ (hw _ (List.mem_of_getElem? (i := 6) rfl))) (mvT hZ (hw _ (List.mem_of_getElem? (i := 7) rfl))) (mvT hZ (hw _ (List.mem_of_getElem? (i := 8) rfl))) (mvT hZ (hw _ (List.mem_of_getElem? (i := 9) rfl))) (by decide) (backOf (W := 0) (rm2 l Z aZ hw [] (v0_273 p0 p1 p2 p3 p4) (v0_21 p0 p1 p2 p3 p4) T51.heap n0 Z51 ) hZ (hw _ (List.mem_of_getElem? (i := 9) rfl)) (hw _ (List.mem_of_getElem? (i := 8) rfl)) (by decide) (by decide)) (g := (mkF m 305 (la0_61 p0 p1 p2 p3 p4 b0_64 b0_70) [(.int (v0_21 p0 p1 p2 p3 p4)), (.int (v0_273 p0 p1 p2 p3 p4))])) rfl (by rw [hml]; rfl) (argsL := [(.int (v0_273 p0 p1 p2 p3 p4)), (.int (v0_21 p0 p1 p2 p3 p4))]) (rest := []) (lenOf pd__II_Z rfl) rfl (by show 2 * 0 + _ ≤ _; exact Nat.le_of_eq rfl) (hb hby at_305) (fun _ _ => ⟨rfl, e55, (by decide : 2 + 0 ≤ _), (by decide : 4 + 0 ≤ _)⟩)
        dsimp only [Pt.U, Pt.locs, Pt.cells, Pt.slots] at X58 l58 y58 z58 st58 hQ58
        subst l58 y58 z58
        obtain ⟨rfl, N58q, e58⟩ := hQ58
        have N58 := Fr.app N55 N58q
        refine ORch.go (g' := (mkF m 308 (la0_61 p0 p1 p2 p3 p4 b0_64 b0_70) [(.int (f2 (v0_273 p0 p1 p2 p3 p4) (v0_21 p0 p1 p2 p3 p4)))])) st58 ?_
        by_cases hc59 : (f2 (v0_273 p0 p1 p2 p3 p4) (v0_21 p0 p1 p2 p3 p4)) = (0 : Int32)
        · skip
          refine ORch.go (T' := T58) (g' := (mkF m 325 (la0_61 p0 p1 p2 p3 p4 b0_64 b0_70) [])) (fun t k => ?_) ?_
          · show Steps p.tables e below (T58.setTop (mkF m 308 (la0_61 p0 p1 p2 p3 p4 b0_64 b0_70) [(.int (f2 (v0_273 p0 p1 p2 p3 p4) (v0_21 p0 p1 p2 p3 p4)))])) t
            refine XS.ifYes X58.here hx rfl (pc0 := 308) (pc' := 325) rfl (hb hby at_308) rfl ((if0 _ _).trans (teq (hc59)).1) (by decide) (by decide) ?_
            show Steps p.tables e below (T58.setTop (mkF m 325 (la0_61 p0 p1 p2 p3 p4 b0_64 b0_70) [])) t
            exact k
          refine ORch.go (T' := T58) (g' := (mkF m 326 (la0_61 p0 p1 p2 p3 p4 b0_64 b0_70) [(.int (0 : Int32))])) (fun t k => ?_) ?_
          · show Steps p.tables e below (T58.setTop (mkF m 325 (la0_61 p0 p1 p2 p3 p4 b0_64 b0_70) [])) t
            refine XS.iconst X58.here hx rfl (hb hby at_325) ?_
            show Steps p.tables e below (T58.setTop (mkF m 326 (la0_61 p0 p1 p2 p3 p4 b0_64 b0_70) [(.int (0 : Int32))])) t
            exact k
          exact ⟨_, _, X58, e58, N58, fun t k => (own_k (f := fun (z : Int32) => mkF m 326 #[.val (.int p0), .val (.int p1), .val (.int p2), .val (.int p3), .val (.int p4), .val (.int (2 : Int32)), .val (.int (v0_11 p0 p1 p2 p3 p4)), .val (.int (v0_21 p0 p1 p2 p3 p4)), .val (.int (v0_32 p0 p1 p2 p3 p4)), .val (.int (v0_41 p0 p1 p2 p3 p4)), .val (.int (v0_50 p0 p1 p2 p3 p4)), .val (.int (v0_60 p0 p1 p2 p3 p4)), .val (.ref b0_64), .val (.ref b0_70), .val (.int (v0_11 p0 p1 p2 p3 p4)), .val (.int (v0_21 p0 p1 p2 p3 p4)), .val (.int (1 : Int32)), .val (.int (v0_41 p0 p1 p2 p3 p4)), .val (.int (v0_50 p0 p1 p2 p3 p4)), .val (.int (0 : Int32)), .val (.int (v0_217x p0 p1 p2 p3 p4)), .val (.int (v0_233x p0 p1 p2 p3 p4)), .val (.int (v0_242x p0 p1 p2 p3 p4)), .val (.int (v0_257 p0 p1 p2 p3 p4)), .val (.int (v0_273 p0 p1 p2 p3 p4)), .val (.int (0 : Int32)), .unset, .unset, .unset, .unset, .unset] [(.int z)]) ((if_neg hc56).trans (if_pos hc59)) k)⟩
        · skip
          refine ORch.go (T' := T58) (g' := (mkF m 311 (la0_61 p0 p1 p2 p3 p4 b0_64 b0_70) [])) (fun t k => ?_) ?_
          · show Steps p.tables e below (T58.setTop (mkF m 308 (la0_61 p0 p1 p2 p3 p4 b0_64 b0_70) [(.int (f2 (v0_273 p0 p1 p2 p3 p4) (v0_21 p0 p1 p2 p3 p4)))])) t
            refine XS.ifNo X58.here hx rfl (hb hby at_308) rfl ((if0 _ _).trans (feq (hc59)).1) ?_
            show Steps p.tables e below (T58.setTop (mkF m 311 (la0_61 p0 p1 p2 p3 p4 b0_64 b0_70) [])) t
            exact k
          refine ORch.go (T' := T58) (g' := (mkF m 315 (la0_61 p0 p1 p2 p3 p4 b0_64 b0_70) [(.int (1 : Int32)), (.int (0 : Int32))])) (fun t k => ?_) ?_
          · show Steps p.tables e below (T58.setTop (mkF m 311 (la0_61 p0 p1 p2 p3 p4 b0_64 b0_70) [])) t
            refine XS.iload X58.here hx rfl (hb hby at_311) rfl ?_
            show Steps p.tables e below (T58.setTop (mkF m 313 (la0_61 p0 p1 p2 p3 p4 b0_64 b0_70) [(.int (0 : Int32))])) t
            refine XS.iload X58.here hx rfl (hb hby at_313) rfl ?_
            show Steps p.tables e below (T58.setTop (mkF m 315 (la0_61 p0 p1 p2 p3 p4 b0_64 b0_70) [(.int (1 : Int32)), (.int (0 : Int32))])) t
            exact k
          obtain ⟨_, _, ⟨T60, L60, k60, n60⟩, -, X60, ⟨Lc60, hQ60, l60, y60, z60⟩, st60⟩ := Jvm.LawKit.callS X58 hx (y := (⟨"com/example/assentor/assentor/check/OdometerAdvancePinLaw", "inRange", "(II)Z"⟩ : MethodName)) hown (mvT hZ (hw _ (List.mem_of_getElem? (i := 6) rfl))) (mvT hZ (hw _ (List.mem_of_getElem? (i := 7) rfl))) (mvT hZ (hw _ (List.mem_of_getElem? (i := 8) rfl))) (mvT hZ (hw _ (List.mem_of_getElem? (i := 9) rfl))) (by decide) (backOf (W := 0) (rm2 l Z aZ hw [] (0 : Int32) (1 : Int32) T51.heap n0 Z51 ) hZ (hw _ (List.mem_of_getElem? (i := 9) rfl)) (hw _ (List.mem_of_getElem? (i := 8) rfl)) (by decide) (by decide)) (g := (mkF m 315 (la0_61 p0 p1 p2 p3 p4 b0_64 b0_70) [(.int (1 : Int32)), (.int (0 : Int32))])) rfl (by rw [hml]; rfl) (argsL := [(.int (0 : Int32)), (.int (1 : Int32))]) (rest := []) (lenOf pd__II_Z rfl) rfl (by show 2 * 0 + _ ≤ _; exact Nat.le_of_eq rfl) (hb hby at_315) (fun _ _ => ⟨rfl, e58, (by decide : 2 + 0 ≤ _), (by decide : 4 + 0 ≤ _)⟩)
          dsimp only [Pt.U, Pt.locs, Pt.cells, Pt.slots] at X60 l60 y60 z60 st60 hQ60
          subst l60 y60 z60
          obtain ⟨rfl, N60q, e60⟩ := hQ60
          have N60 := Fr.app N58 N60q
          refine ORch.go (g' := (mkF m 318 (la0_61 p0 p1 p2 p3 p4 b0_64 b0_70) [(.int (f2 (0 : Int32) (1 : Int32)))])) st60 ?_
          by_cases hc61 : (f2 (0 : Int32) (1 : Int32)) = (0 : Int32)
          · skip
            refine ORch.go (T' := T60) (g' := (mkF m 325 (la0_61 p0 p1 p2 p3 p4 b0_64 b0_70) [])) (fun t k => ?_) ?_
            · show Steps p.tables e below (T60.setTop (mkF m 318 (la0_61 p0 p1 p2 p3 p4 b0_64 b0_70) [(.int (f2 (0 : Int32) (1 : Int32)))])) t
              refine XS.ifYes X60.here hx rfl (pc0 := 318) (pc' := 325) rfl (hb hby at_318) rfl ((if0 _ _).trans (teq (hc61)).1) (by decide) (by decide) ?_
              show Steps p.tables e below (T60.setTop (mkF m 325 (la0_61 p0 p1 p2 p3 p4 b0_64 b0_70) [])) t
              exact k
            refine ORch.go (T' := T60) (g' := (mkF m 326 (la0_61 p0 p1 p2 p3 p4 b0_64 b0_70) [(.int (0 : Int32))])) (fun t k => ?_) ?_
            · show Steps p.tables e below (T60.setTop (mkF m 325 (la0_61 p0 p1 p2 p3 p4 b0_64 b0_70) [])) t
              refine XS.iconst X60.here hx rfl (hb hby at_325) ?_
              show Steps p.tables e below (T60.setTop (mkF m 326 (la0_61 p0 p1 p2 p3 p4 b0_64 b0_70) [(.int (0 : Int32))])) t
              exact k
            exact ⟨_, _, X60, e60, N60, fun t k => (own_k (f := fun (z : Int32) => mkF m 326 #[.val (.int p0), .val (.int p1), .val (.int p2), .val (.int p3), .val (.int p4), .val (.int (2 : Int32)), .val (.int (v0_11 p0 p1 p2 p3 p4)), .val (.int (v0_21 p0 p1 p2 p3 p4)), .val (.int (v0_32 p0 p1 p2 p3 p4)), .val (.int (v0_41 p0 p1 p2 p3 p4)), .val (.int (v0_50 p0 p1 p2 p3 p4)), .val (.int (v0_60 p0 p1 p2 p3 p4)), .val (.ref b0_64), .val (.ref b0_70), .val (.int (v0_11 p0 p1 p2 p3 p4)), .val (.int (v0_21 p0 p1 p2 p3 p4)), .val (.int (1 : Int32)), .val (.int (v0_41 p0 p1 p2 p3 p4)), .val (.int (v0_50 p0 p1 p2 p3 p4)), .val (.int (0 : Int32)), .val (.int (v0_217x p0 p1 p2 p3 p4)), .val (.int (v0_233x p0 p1 p2 p3 p4)), .val (.int (v0_242x p0 p1 p2 p3 p4)), .val (.int (v0_257 p0 p1 p2 p3 p4)), .val (.int (v0_273 p0 p1 p2 p3 p4)), .val (.int (0 : Int32)), .unset, .unset, .unset, .unset, .unset] [(.int z)]) ((if_neg hc56).trans ((if_neg hc59).trans (if_pos hc61))) k)⟩
          · skip
            refine ORch.go (T' := T60) (g' := (mkF m 321 (la0_61 p0 p1 p2 p3 p4 b0_64 b0_70) [])) (fun t k => ?_) ?_
            · show Steps p.tables e below (T60.setTop (mkF m 318 (la0_61 p0 p1 p2 p3 p4 b0_64 b0_70) [(.int (f2 (0 : Int32) (1 : Int32)))])) t
              refine XS.ifNo X60.here hx rfl (hb hby at_318) rfl ((if0 _ _).trans (feq (hc61)).1) ?_
              show Steps p.tables e below (T60.setTop (mkF m 321 (la0_61 p0 p1 p2 p3 p4 b0_64 b0_70) [])) t
              exact k
            refine ORch.go (T' := T60) (g' := (mkF m 326 (la0_61 p0 p1 p2 p3 p4 b0_64 b0_70) [(.int (1 : Int32))])) (fun t k => ?_) ?_
            · show Steps p.tables e below (T60.setTop (mkF m 321 (la0_61 p0 p1 p2 p3 p4 b0_64 b0_70) [])) t
              refine XS.iconst X60.here hx rfl (hb hby at_321) ?_
              show Steps p.tables e below (T60.setTop (mkF m 322 (la0_61 p0 p1 p2 p3 p4 b0_64 b0_70) [(.int (1 : Int32))])) t
              refine XS.goto X60.here hx rfl (pc0 := 322) (pc' := 326) rfl (hb hby at_322) (by decide) (by decide) ?_
              show Steps p.tables e below (T60.setTop (mkF m 326 (la0_61 p0 p1 p2 p3 p4 b0_64 b0_70) [(.int (1 : Int32))])) t
              exact k
            exact ⟨_, _, X60, e60, N60, fun t k => (own_k (f := fun (z : Int32) => mkF m 326 #[.val (.int p0), .val (.int p1), .val (.int p2), .val (.int p3), .val (.int p4), .val (.int (2 : Int32)), .val (.int (v0_11 p0 p1 p2 p3 p4)), .val (.int (v0_21 p0 p1 p2 p3 p4)), .val (.int (v0_32 p0 p1 p2 p3 p4)), .val (.int (v0_41 p0 p1 p2 p3 p4)), .val (.int (v0_50 p0 p1 p2 p3 p4)), .val (.int (v0_60 p0 p1 p2 p3 p4)), .val (.ref b0_64), .val (.ref b0_70), .val (.int (v0_11 p0 p1 p2 p3 p4)), .val (.int (v0_21 p0 p1 p2 p3 p4)), .val (.int (1 : Int32)), .val (.int (v0_41 p0 p1 p2 p3 p4)), .val (.int (v0_50 p0 p1 p2 p3 p4)), .val (.int (0 : Int32)), .val (.int (v0_217x p0 p1 p2 p3 p4)), .val (.int (v0_233x p0 p1 p2 p3 p4)), .val (.int (v0_242x p0 p1 p2 p3 p4)), .val (.int (v0_257 p0 p1 p2 p3 p4)), .val (.int (v0_273 p0 p1 p2 p3 p4)), .val (.int (0 : Int32)), .unset, .unset, .unset, .unset, .unset] [(.int z)]) ((if_neg hc56).trans ((if_neg hc59).trans (if_neg hc61))) k)⟩
    refine OEnd.go (g' := (mkF m 326 (la0_61 p0 p1 p2 p3 p4 b0_64 b0_70) [(.int (if (f2 (v0_257 p0 p1 p2 p3 p4) (v0_11 p0 p1 p2 p3 p4)) = (0 : Int32) then (0 : Int32) else (if (f2 (v0_273 p0 p1 p2 p3 p4) (v0_21 p0 p1 p2 p3 p4)) = (0 : Int32) then (0 : Int32) else (if (f2 (0 : Int32) (1 : Int32)) = (0 : Int32) then (0 : Int32) else (1 : Int32)))))])) st57 ?_
    refine OEnd.go (T' := T57) (g' := (mkF m 336 (la0_62 p0 p1 p2 p3 p4 b0_64 b0_70) [(.int (0 : Int32)), (.ref b0_64)])) (fun t k => ?_) ?_
    · show Steps p.tables e below (T57.setTop (mkF m 326 (la0_61 p0 p1 p2 p3 p4 b0_64 b0_70) [(.int (if (f2 (v0_257 p0 p1 p2 p3 p4) (v0_11 p0 p1 p2 p3 p4)) = (0 : Int32) then (0 : Int32) else (if (f2 (v0_273 p0 p1 p2 p3 p4) (v0_21 p0 p1 p2 p3 p4)) = (0 : Int32) then (0 : Int32) else (if (f2 (0 : Int32) (1 : Int32)) = (0 : Int32) then (0 : Int32) else (1 : Int32)))))])) t
      refine XS.istore X57.here hx rfl (hb hby at_326) rfl (l' := (la0_62 p0 p1 p2 p3 p4 b0_64 b0_70)) rfl ?_
      show Steps p.tables e below (T57.setTop (mkF m 328 (la0_62 p0 p1 p2 p3 p4 b0_64 b0_70) [])) t
      refine XS.iload X57.here hx rfl (hb hby at_328) rfl ?_
      show Steps p.tables e below (T57.setTop (mkF m 330 (la0_62 p0 p1 p2 p3 p4 b0_64 b0_70) [(.int (2 : Int32))])) t
      refine XS.ifNo X57.here hx rfl (hb hby at_330) rfl ((if0 _ _).trans (tlt ((by decide))).2.2.2) ?_
      show Steps p.tables e below (T57.setTop (mkF m 333 (la0_62 p0 p1 p2 p3 p4 b0_64 b0_70) [])) t
      refine XS.aload X57.here hx rfl (hb hby at_333) rfl rfl ?_
      show Steps p.tables e below (T57.setTop (mkF m 335 (la0_62 p0 p1 p2 p3 p4 b0_64 b0_70) [(.ref b0_64)])) t
      refine XS.iconst X57.here hx rfl (hb hby at_335) ?_
      show Steps p.tables e below (T57.setTop (mkF m 336 (la0_62 p0 p1 p2 p3 p4 b0_64 b0_70) [(.int (0 : Int32)), (.ref b0_64)])) t
      exact k
    obtain ⟨kc62, cl62, Ar62, q62, S62, M62, H62, G62⟩ := id fc52
    have hin62 : ¬ ((0 : Int32) < 0 ∨ cl62.slots.size ≤ ((0 : Int32)).toNatClampNeg) := inb_of S62 ⟨by decide, by decide⟩
    have hat62 : cl62.slots[((0 : Int32)).toNatClampNeg]? = some (.int (v0_11 p0 p1 p2 p3 p4)) := Has.at H62 hin62 rfl
    refine OEnd.go (T' := T57) (g' := (mkF m 337 (la0_62 p0 p1 p2 p3 p4 b0_64 b0_70) [(.int (v0_11 p0 p1 p2 p3 p4))])) (fun t k => ?_) ?_
    · refine X57.iaload hx (j := (0 : Int32)) (v := (.int (v0_11 p0 p1 p2 p3 p4))) (by rw [e57]; exact Ar62.1) (State.isArrayOf_alike hZ.alike Ar62.2.1) Ar62.2.2 hin62 hat62 (g := (mkF m 336 (la0_62 p0 p1 p2 p3 p4 b0_64 b0_70) [(.int (0 : Int32)), (.ref b0_64)])) rfl rfl (hb hby at_336) _ ?_
      exact k
    refine OEnd.go (T' := T57) (g' := (mkF m 339 (la0_62 p0 p1 p2 p3 p4 b0_64 b0_70) [(.int (v0_11 p0 p1 p2 p3 p4)), (.int (v0_11 p0 p1 p2 p3 p4))])) (fun t k => ?_) ?_
    · show Steps p.tables e below (T57.setTop (mkF m 337 (la0_62 p0 p1 p2 p3 p4 b0_64 b0_70) [(.int (v0_11 p0 p1 p2 p3 p4))])) t
      refine XS.iload X57.here hx rfl (hb hby at_337) rfl ?_
      show Steps p.tables e below (T57.setTop (mkF m 339 (la0_62 p0 p1 p2 p3 p4 b0_64 b0_70) [(.int (v0_11 p0 p1 p2 p3 p4)), (.int (v0_11 p0 p1 p2 p3 p4))])) t
      exact k
    obtain ⟨T64, L64, X64, e64, N64, st64⟩ : ORch p l e room_1 s m #[(.int p0), (.int p1), (.int p2), (.int p3), (.int p4)] below meth c n0 T57 (mkF m 339 (la0_62 p0 p1 p2 p3 p4 b0_64 b0_70) [(.int (v0_11 p0 p1 p2 p3 p4)), (.int (v0_11 p0 p1 p2 p3 p4))]) T51.heap (mkF m 377 (la0_62 p0 p1 p2 p3 p4 b0_64 b0_70) [(.int (if (v0_11 p0 p1 p2 p3 p4) = (v0_11 p0 p1 p2 p3 p4) then (if (v0_21 p0 p1 p2 p3 p4) = (v0_21 p0 p1 p2 p3 p4) then (1 : Int32) else (0 : Int32)) else (0 : Int32)))]) 2 4 := by
      by_cases hc63 : (v0_11 p0 p1 p2 p3 p4) = (v0_11 p0 p1 p2 p3 p4)
      · skip
        refine ORch.go (T' := T57) (g' := (mkF m 342 (la0_62 p0 p1 p2 p3 p4 b0_64 b0_70) [])) (fun t k => ?_) ?_
        · show Steps p.tables e below (T57.setTop (mkF m 339 (la0_62 p0 p1 p2 p3 p4 b0_64 b0_70) [(.int (v0_11 p0 p1 p2 p3 p4)), (.int (v0_11 p0 p1 p2 p3 p4))])) t
          refine XS.icmpNo X57.here hx rfl (hb hby at_339) rfl (teq (hc63)).2 ?_
          show Steps p.tables e below (T57.setTop (mkF m 342 (la0_62 p0 p1 p2 p3 p4 b0_64 b0_70) [])) t
          exact k
        refine ORch.go (T' := T57) (g' := (mkF m 351 (la0_62 p0 p1 p2 p3 p4 b0_64 b0_70) [(.int (1 : Int32)), (.ref b0_64)])) (fun t k => ?_) ?_
        · show Steps p.tables e below (T57.setTop (mkF m 342 (la0_62 p0 p1 p2 p3 p4 b0_64 b0_70) [])) t
          refine XS.iload X57.here hx rfl (hb hby at_342) rfl ?_
          show Steps p.tables e below (T57.setTop (mkF m 344 (la0_62 p0 p1 p2 p3 p4 b0_64 b0_70) [(.int (2 : Int32))])) t
          refine XS.iconst X57.here hx rfl (hb hby at_344) ?_
          show Steps p.tables e below (T57.setTop (mkF m 345 (la0_62 p0 p1 p2 p3 p4 b0_64 b0_70) [(.int (1 : Int32)), (.int (2 : Int32))])) t
          refine XS.icmpNo X57.here hx rfl (hb hby at_345) rfl (tlt ((by decide))).2.2.2 ?_
          show Steps p.tables e below (T57.setTop (mkF m 348 (la0_62 p0 p1 p2 p3 p4 b0_64 b0_70) [])) t
          refine XS.aload X57.here hx rfl (hb hby at_348) rfl rfl ?_
          show Steps p.tables e below (T57.setTop (mkF m 350 (la0_62 p0 p1 p2 p3 p4 b0_64 b0_70) [(.ref b0_64)])) t
          refine XS.iconst X57.here hx rfl (hb hby at_350) ?_
          show Steps p.tables e below (T57.setTop (mkF m 351 (la0_62 p0 p1 p2 p3 p4 b0_64 b0_70) [(.int (1 : Int32)), (.ref b0_64)])) t
          exact k
        obtain ⟨kc65, cl65, Ar65, q65, S65, M65, H65, G65⟩ := id fc52
        have hin65 : ¬ ((1 : Int32) < 0 ∨ cl65.slots.size ≤ ((1 : Int32)).toNatClampNeg) := inb_of S65 ⟨by decide, by decide⟩
        have hat65 : cl65.slots[((1 : Int32)).toNatClampNeg]? = some (.int (v0_21 p0 p1 p2 p3 p4)) := Has.at H65 hin65 rfl
        refine ORch.go (T' := T57) (g' := (mkF m 352 (la0_62 p0 p1 p2 p3 p4 b0_64 b0_70) [(.int (v0_21 p0 p1 p2 p3 p4))])) (fun t k => ?_) ?_
        · refine X57.iaload hx (j := (1 : Int32)) (v := (.int (v0_21 p0 p1 p2 p3 p4))) (by rw [e57]; exact Ar65.1) (State.isArrayOf_alike hZ.alike Ar65.2.1) Ar65.2.2 hin65 hat65 (g := (mkF m 351 (la0_62 p0 p1 p2 p3 p4 b0_64 b0_70) [(.int (1 : Int32)), (.ref b0_64)])) rfl rfl (hb hby at_351) _ ?_
          exact k
        refine ORch.go (T' := T57) (g' := (mkF m 354 (la0_62 p0 p1 p2 p3 p4 b0_64 b0_70) [(.int (v0_21 p0 p1 p2 p3 p4)), (.int (v0_21 p0 p1 p2 p3 p4))])) (fun t k => ?_) ?_
        · show Steps p.tables e below (T57.setTop (mkF m 352 (la0_62 p0 p1 p2 p3 p4 b0_64 b0_70) [(.int (v0_21 p0 p1 p2 p3 p4))])) t
          refine XS.iload X57.here hx rfl (hb hby at_352) rfl ?_
          show Steps p.tables e below (T57.setTop (mkF m 354 (la0_62 p0 p1 p2 p3 p4 b0_64 b0_70) [(.int (v0_21 p0 p1 p2 p3 p4)), (.int (v0_21 p0 p1 p2 p3 p4))])) t
          exact k
        by_cases hc66 : (v0_21 p0 p1 p2 p3 p4) = (v0_21 p0 p1 p2 p3 p4)
        · skip
          refine ORch.go (T' := T57) (g' := (mkF m 357 (la0_62 p0 p1 p2 p3 p4 b0_64 b0_70) [])) (fun t k => ?_) ?_
          · show Steps p.tables e below (T57.setTop (mkF m 354 (la0_62 p0 p1 p2 p3 p4 b0_64 b0_70) [(.int (v0_21 p0 p1 p2 p3 p4)), (.int (v0_21 p0 p1 p2 p3 p4))])) t
            refine XS.icmpNo X57.here hx rfl (hb hby at_354) rfl (teq (hc66)).2 ?_
            show Steps p.tables e below (T57.setTop (mkF m 357 (la0_62 p0 p1 p2 p3 p4 b0_64 b0_70) [])) t
            exact k
          refine ORch.go (T' := T57) (g' := (mkF m 377 (la0_62 p0 p1 p2 p3 p4 b0_64 b0_70) [(.int (1 : Int32))])) (fun t k => ?_) ?_
          · show Steps p.tables e below (T57.setTop (mkF m 357 (la0_62 p0 p1 p2 p3 p4 b0_64 b0_70) [])) t
            refine XS.iload X57.here hx rfl (hb hby at_357) rfl ?_
            show Steps p.tables e below (T57.setTop (mkF m 359 (la0_62 p0 p1 p2 p3 p4 b0_64 b0_70) [(.int (2 : Int32))])) t
            refine XS.iconst X57.here hx rfl (hb hby at_359) ?_
            show Steps p.tables e below (T57.setTop (mkF m 360 (la0_62 p0 p1 p2 p3 p4 b0_64 b0_70) [(.int (2 : Int32)), (.int (2 : Int32))])) t
            refine XS.icmpYes X57.here hx rfl (pc0 := 360) (pc' := 372) rfl (hb hby at_360) rfl (flt ((by decide))).2.2.2 (by decide) (by decide) ?_
            show Steps p.tables e below (T57.setTop (mkF m 372 (la0_62 p0 p1 p2 p3 p4 b0_64 b0_70) [])) t
            refine XS.iconst X57.here hx rfl (hb hby at_372) ?_
            show Steps p.tables e below (T57.setTop (mkF m 373 (la0_62 p0 p1 p2 p3 p4 b0_64 b0_70) [(.int (1 : Int32))])) t
            refine XS.goto X57.here hx rfl (pc0 := 373) (pc' := 377) rfl (hb hby at_373) (by decide) (by decide) ?_
            show Steps p.tables e below (T57.setTop (mkF m 377 (la0_62 p0 p1 p2 p3 p4 b0_64 b0_70) [(.int (1 : Int32))])) t
            exact k
          exact ⟨_, _, X57, e57, N57, fun t k => (own_k (f := fun (z : Int32) => mkF m 377 #[.val (.int p0), .val (.int p1), .val (.int p2), .val (.int p3), .val (.int p4), .val (.int (2 : Int32)), .val (.int (v0_11 p0 p1 p2 p3 p4)), .val (.int (v0_21 p0 p1 p2 p3 p4)), .val (.int (v0_32 p0 p1 p2 p3 p4)), .val (.int (v0_41 p0 p1 p2 p3 p4)), .val (.int (v0_50 p0 p1 p2 p3 p4)), .val (.int (v0_60 p0 p1 p2 p3 p4)), .val (.ref b0_64), .val (.ref b0_70), .val (.int (v0_11 p0 p1 p2 p3 p4)), .val (.int (v0_21 p0 p1 p2 p3 p4)), .val (.int (1 : Int32)), .val (.int (v0_41 p0 p1 p2 p3 p4)), .val (.int (v0_50 p0 p1 p2 p3 p4)), .val (.int (0 : Int32)), .val (.int (v0_217x p0 p1 p2 p3 p4)), .val (.int (v0_233x p0 p1 p2 p3 p4)), .val (.int (v0_242x p0 p1 p2 p3 p4)), .val (.int (v0_257 p0 p1 p2 p3 p4)), .val (.int (v0_273 p0 p1 p2 p3 p4)), .val (.int (0 : Int32)), .val (.int (v0_326xx p0 p1 p2 p3 p4)), .unset, .unset, .unset, .unset] [(.int z)]) ((if_pos hc63).trans (if_pos hc66)) k)⟩
        · skip
          refine ORch.go (T' := T57) (g' := (mkF m 376 (la0_62 p0 p1 p2 p3 p4 b0_64 b0_70) [])) (fun t k => ?_) ?_
          · show Steps p.tables e below (T57.setTop (mkF m 354 (la0_62 p0 p1 p2 p3 p4 b0_64 b0_70) [(.int (v0_21 p0 p1 p2 p3 p4)), (.int (v0_21 p0 p1 p2 p3 p4))])) t
            refine XS.icmpYes X57.here hx rfl (pc0 := 354) (pc' := 376) rfl (hb hby at_354) rfl (feq (hc66)).2 (by decide) (by decide) ?_
            show Steps p.tables e below (T57.setTop (mkF m 376 (la0_62 p0 p1 p2 p3 p4 b0_64 b0_70) [])) t
            exact k
          refine ORch.go (T' := T57) (g' := (mkF m 377 (la0_62 p0 p1 p2 p3 p4 b0_64 b0_70) [(.int (0 : Int32))])) (fun t k => ?_) ?_
          · show Steps p.tables e below (T57.setTop (mkF m 376 (la0_62 p0 p1 p2 p3 p4 b0_64 b0_70) [])) t
            refine XS.iconst X57.here hx rfl (hb hby at_376) ?_
            show Steps p.tables e below (T57.setTop (mkF m 377 (la0_62 p0 p1 p2 p3 p4 b0_64 b0_70) [(.int (0 : Int32))])) t
            exact k
          exact ⟨_, _, X57, e57, N57, fun t k => (own_k (f := fun (z : Int32) => mkF m 377 #[.val (.int p0), .val (.int p1), .val (.int p2), .val (.int p3), .val (.int p4), .val (.int (2 : Int32)), .val (.int (v0_11 p0 p1 p2 p3 p4)), .val (.int (v0_21 p0 p1 p2 p3 p4)), .val (.int (v0_32 p0 p1 p2 p3 p4)), .val (.int (v0_41 p0 p1 p2 p3 p4)), .val (.int (v0_50 p0 p1 p2 p3 p4)), .val (.int (v0_60 p0 p1 p2 p3 p4)), .val (.ref b0_64), .val (.ref b0_70), .val (.int (v0_11 p0 p1 p2 p3 p4)), .val (.int (v0_21 p0 p1 p2 p3 p4)), .val (.int (1 : Int32)), .val (.int (v0_41 p0 p1 p2 p3 p4)), .val (.int (v0_50 p0 p1 p2 p3 p4)), .val (.int (0 : Int32)), .val (.int (v0_217x p0 p1 p2 p3 p4)), .val (.int (v0_233x p0 p1 p2 p3 p4)), .val (.int (v0_242x p0 p1 p2 p3 p4)), .val (.int (v0_257 p0 p1 p2 p3 p4)), .val (.int (v0_273 p0 p1 p2 p3 p4)), .val (.int (0 : Int32)), .val (.int (v0_326xx p0 p1 p2 p3 p4)), .unset, .unset, .unset, .unset] [(.int z)]) ((if_pos hc63).trans (if_neg hc66)) k)⟩
      · skip
        refine ORch.go (T' := T57) (g' := (mkF m 376 (la0_62 p0 p1 p2 p3 p4 b0_64 b0_70) [])) (fun t k => ?_) ?_
        · show Steps p.tables e below (T57.setTop (mkF m 339 (la0_62 p0 p1 p2 p3 p4 b0_64 b0_70) [(.int (v0_11 p0 p1 p2 p3 p4)), (.int (v0_11 p0 p1 p2 p3 p4))])) t
          refine XS.icmpYes X57.here hx rfl (pc0 := 339) (pc' := 376) rfl (hb hby at_339) rfl (feq (hc63)).2 (by decide) (by decide) ?_
          show Steps p.tables e below (T57.setTop (mkF m 376 (la0_62 p0 p1 p2 p3 p4 b0_64 b0_70) [])) t
          exact k
        refine ORch.go (T' := T57) (g' := (mkF m 377 (la0_62 p0 p1 p2 p3 p4 b0_64 b0_70) [(.int (0 : Int32))])) (fun t k => ?_) ?_
        · show Steps p.tables e below (T57.setTop (mkF m 376 (la0_62 p0 p1 p2 p3 p4 b0_64 b0_70) [])) t
          refine XS.iconst X57.here hx rfl (hb hby at_376) ?_
          show Steps p.tables e below (T57.setTop (mkF m 377 (la0_62 p0 p1 p2 p3 p4 b0_64 b0_70) [(.int (0 : Int32))])) t
          exact k
        exact ⟨_, _, X57, e57, N57, fun t k => (own_k (f := fun (z : Int32) => mkF m 377 #[.val (.int p0), .val (.int p1), .val (.int p2), .val (.int p3), .val (.int p4), .val (.int (2 : Int32)), .val (.int (v0_11 p0 p1 p2 p3 p4)), .val (.int (v0_21 p0 p1 p2 p3 p4)), .val (.int (v0_32 p0 p1 p2 p3 p4)), .val (.int (v0_41 p0 p1 p2 p3 p4)), .val (.int (v0_50 p0 p1 p2 p3 p4)), .val (.int (v0_60 p0 p1 p2 p3 p4)), .val (.ref b0_64), .val (.ref b0_70), .val (.int (v0_11 p0 p1 p2 p3 p4)), .val (.int (v0_21 p0 p1 p2 p3 p4)), .val (.int (1 : Int32)), .val (.int (v0_41 p0 p1 p2 p3 p4)), .val (.int (v0_50 p0 p1 p2 p3 p4)), .val (.int (0 : Int32)), .val (.int (v0_217x p0 p1 p2 p3 p4)), .val (.int (v0_233x p0 p1 p2 p3 p4)), .val (.int (v0_242x p0 p1 p2 p3 p4)), .val (.int (v0_257 p0 p1 p2 p3 p4)), .val (.int (v0_273 p0 p1 p2 p3 p4)), .val (.int (0 : Int32)), .val (.int (v0_326xx p0 p1 p2 p3 p4)), .unset, .unset, .unset, .unset] [(.int z)]) (if_neg hc63) k)⟩
    refine OEnd.go (g' := (mkF m 377 (la0_62 p0 p1 p2 p3 p4 b0_64 b0_70) [(.int (if (v0_11 p0 p1 p2 p3 p4) = (v0_11 p0 p1 p2 p3 p4) then (if (v0_21 p0 p1 p2 p3 p4) = (v0_21 p0 p1 p2 p3 p4) then (1 : Int32) else (0 : Int32)) else (0 : Int32)))])) st64 ?_
    refine OEnd.go (T' := T64) (g' := (mkF m 401 (la0_64 p0 p1 p2 p3 p4 b0_64 b0_70) [(.int (v0_217x p0 p1 p2 p3 p4)), (.int ((v0_233x p0 p1 p2 p3 p4) + (1 : Int32)))])) (fun t k => ?_) ?_
    · show Steps p.tables e below (T64.setTop (mkF m 377 (la0_62 p0 p1 p2 p3 p4 b0_64 b0_70) [(.int (if (v0_11 p0 p1 p2 p3 p4) = (v0_11 p0 p1 p2 p3 p4) then (if (v0_21 p0 p1 p2 p3 p4) = (v0_21 p0 p1 p2 p3 p4) then (1 : Int32) else (0 : Int32)) else (0 : Int32)))])) t
      refine XS.istore X64.here hx rfl (hb hby at_377) rfl (l' := (la0_63 p0 p1 p2 p3 p4 b0_64 b0_70)) rfl ?_
      show Steps p.tables e below (T64.setTop (mkF m 379 (la0_63 p0 p1 p2 p3 p4 b0_64 b0_70) [])) t
      refine XS.iload X64.here hx rfl (hb hby at_379) rfl ?_
      show Steps p.tables e below (T64.setTop (mkF m 381 (la0_63 p0 p1 p2 p3 p4 b0_64 b0_70) [(.int (v0_257 p0 p1 p2 p3 p4))])) t
      refine XS.iload X64.here hx rfl (hb hby at_381) rfl ?_
      show Steps p.tables e below (T64.setTop (mkF m 383 (la0_63 p0 p1 p2 p3 p4 b0_64 b0_70) [(.int (v0_11 p0 p1 p2 p3 p4)), (.int (v0_257 p0 p1 p2 p3 p4))])) t
      refine XS.iload X64.here hx rfl (hb hby at_383) rfl ?_
      show Steps p.tables e below (T64.setTop (mkF m 385 (la0_63 p0 p1 p2 p3 p4 b0_64 b0_70) [(.int (v0_273 p0 p1 p2 p3 p4)), (.int (v0_11 p0 p1 p2 p3 p4)), (.int (v0_257 p0 p1 p2 p3 p4))])) t
      refine XS.iload X64.here hx rfl (hb hby at_385) rfl ?_
      show Steps p.tables e below (T64.setTop (mkF m 387 (la0_63 p0 p1 p2 p3 p4 b0_64 b0_70) [(.int (v0_21 p0 p1 p2 p3 p4)), (.int (v0_273 p0 p1 p2 p3 p4)), (.int (v0_11 p0 p1 p2 p3 p4)), (.int (v0_257 p0 p1 p2 p3 p4))])) t
      refine XS.iload X64.here hx rfl (hb hby at_387) rfl ?_
      show Steps p.tables e below (T64.setTop (mkF m 389 (la0_63 p0 p1 p2 p3 p4 b0_64 b0_70) [(.int (0 : Int32)), (.int (v0_21 p0 p1 p2 p3 p4)), (.int (v0_273 p0 p1 p2 p3 p4)), (.int (v0_11 p0 p1 p2 p3 p4)), (.int (v0_257 p0 p1 p2 p3 p4))])) t
      refine XS.imul X64.here hx rfl (hb hby at_389) rfl ?_
      show Steps p.tables e below (T64.setTop (mkF m 390 (la0_63 p0 p1 p2 p3 p4 b0_64 b0_70) [(.int ((v0_21 p0 p1 p2 p3 p4) * (0 : Int32))), (.int (v0_273 p0 p1 p2 p3 p4)), (.int (v0_11 p0 p1 p2 p3 p4)), (.int (v0_257 p0 p1 p2 p3 p4))])) t
      refine XS.iadd X64.here hx rfl (hb hby at_390) rfl ?_
      show Steps p.tables e below (T64.setTop (mkF m 391 (la0_63 p0 p1 p2 p3 p4 b0_64 b0_70) [(.int ((v0_273 p0 p1 p2 p3 p4) + ((v0_21 p0 p1 p2 p3 p4) * (0 : Int32)))), (.int (v0_11 p0 p1 p2 p3 p4)), (.int (v0_257 p0 p1 p2 p3 p4))])) t
      refine XS.imul X64.here hx rfl (hb hby at_391) rfl ?_
      show Steps p.tables e below (T64.setTop (mkF m 392 (la0_63 p0 p1 p2 p3 p4 b0_64 b0_70) [(.int ((v0_11 p0 p1 p2 p3 p4) * ((v0_273 p0 p1 p2 p3 p4) + ((v0_21 p0 p1 p2 p3 p4) * (0 : Int32))))), (.int (v0_257 p0 p1 p2 p3 p4))])) t
      refine XS.iadd X64.here hx rfl (hb hby at_392) rfl ?_
      show Steps p.tables e below (T64.setTop (mkF m 393 (la0_63 p0 p1 p2 p3 p4 b0_64 b0_70) [(.int ((v0_257 p0 p1 p2 p3 p4) + ((v0_11 p0 p1 p2 p3 p4) * ((v0_273 p0 p1 p2 p3 p4) + ((v0_21 p0 p1 p2 p3 p4) * (0 : Int32))))))])) t
      refine XS.istore X64.here hx rfl (hb hby at_393) rfl (l' := (la0_64 p0 p1 p2 p3 p4 b0_64 b0_70)) rfl ?_
      show Steps p.tables e below (T64.setTop (mkF m 395 (la0_64 p0 p1 p2 p3 p4 b0_64 b0_70) [])) t
      refine XS.iload X64.here hx rfl (hb hby at_395) rfl ?_
      show Steps p.tables e below (T64.setTop (mkF m 397 (la0_64 p0 p1 p2 p3 p4 b0_64 b0_70) [(.int (v0_233x p0 p1 p2 p3 p4))])) t
      refine XS.iconst X64.here hx rfl (hb hby at_397) ?_
      show Steps p.tables e below (T64.setTop (mkF m 398 (la0_64 p0 p1 p2 p3 p4 b0_64 b0_70) [(.int (1 : Int32)), (.int (v0_233x p0 p1 p2 p3 p4))])) t
      refine XS.iadd X64.here hx rfl (hb hby at_398) rfl ?_
      show Steps p.tables e below (T64.setTop (mkF m 399 (la0_64 p0 p1 p2 p3 p4 b0_64 b0_70) [(.int ((v0_233x p0 p1 p2 p3 p4) + (1 : Int32)))])) t
      refine XS.iload X64.here hx rfl (hb hby at_399) rfl ?_
      show Steps p.tables e below (T64.setTop (mkF m 401 (la0_64 p0 p1 p2 p3 p4 b0_64 b0_70) [(.int (v0_217x p0 p1 p2 p3 p4)), (.int ((v0_233x p0 p1 p2 p3 p4) + (1 : Int32)))])) t
      exact k
    refine OEnd.go (T' := T64) (g' := (mkF m 409 (la0_64 p0 p1 p2 p3 p4 b0_64 b0_70) [(.int (if ((v0_233x p0 p1 p2 p3 p4) + (1 : Int32)) = (v0_217x p0 p1 p2 p3 p4) then (1 : Int32) else (0 : Int32)))])) (fun t k => ?_) ?_
    · show Steps p.tables e below (T64.setTop (mkF m 401 (la0_64 p0 p1 p2 p3 p4 b0_64 b0_70) [(.int (v0_217x p0 p1 p2 p3 p4)), (.int ((v0_233x p0 p1 p2 p3 p4) + (1 : Int32)))])) t
      by_cases hc67 : ((v0_233x p0 p1 p2 p3 p4) + (1 : Int32)) = (v0_217x p0 p1 p2 p3 p4)
      · skip
        refine XS.icmpNo X64.here hx rfl (hb hby at_401) rfl (teq (hc67)).2 ?_
        show Steps p.tables e below (T64.setTop (mkF m 404 (la0_64 p0 p1 p2 p3 p4 b0_64 b0_70) [])) t
        refine SGo.go (T' := T64) (g' := (mkF m 409 (la0_64 p0 p1 p2 p3 p4 b0_64 b0_70) [(.int (1 : Int32))])) (fun t k => ?_) ?_
        · show Steps p.tables e below (T64.setTop (mkF m 404 (la0_64 p0 p1 p2 p3 p4 b0_64 b0_70) [])) t
          refine XS.iconst X64.here hx rfl (hb hby at_404) ?_
          show Steps p.tables e below (T64.setTop (mkF m 405 (la0_64 p0 p1 p2 p3 p4 b0_64 b0_70) [(.int (1 : Int32))])) t
          refine XS.goto X64.here hx rfl (pc0 := 405) (pc' := 409) rfl (hb hby at_405) (by decide) (by decide) ?_
          show Steps p.tables e below (T64.setTop (mkF m 409 (la0_64 p0 p1 p2 p3 p4 b0_64 b0_70) [(.int (1 : Int32))])) t
          exact k
        exact (own_k (f := fun (z : Int32) => mkF m 409 #[.val (.int p0), .val (.int p1), .val (.int p2), .val (.int p3), .val (.int p4), .val (.int (2 : Int32)), .val (.int (v0_11 p0 p1 p2 p3 p4)), .val (.int (v0_21 p0 p1 p2 p3 p4)), .val (.int (v0_32 p0 p1 p2 p3 p4)), .val (.int (v0_41 p0 p1 p2 p3 p4)), .val (.int (v0_50 p0 p1 p2 p3 p4)), .val (.int (v0_60 p0 p1 p2 p3 p4)), .val (.ref b0_64), .val (.ref b0_70), .val (.int (v0_11 p0 p1 p2 p3 p4)), .val (.int (v0_21 p0 p1 p2 p3 p4)), .val (.int (1 : Int32)), .val (.int (v0_41 p0 p1 p2 p3 p4)), .val (.int (v0_50 p0 p1 p2 p3 p4)), .val (.int (0 : Int32)), .val (.int (v0_217x p0 p1 p2 p3 p4)), .val (.int (v0_233x p0 p1 p2 p3 p4)), .val (.int (v0_242x p0 p1 p2 p3 p4)), .val (.int (v0_257 p0 p1 p2 p3 p4)), .val (.int (v0_273 p0 p1 p2 p3 p4)), .val (.int (0 : Int32)), .val (.int (v0_326xx p0 p1 p2 p3 p4)), .val (.int (v0_377x p0 p1 p2 p3 p4)), .val (.int (v0_393x p0 p1 p2 p3 p4)), .unset, .unset] [(.int z)]) (if_pos hc67) k)
      · skip
        refine XS.icmpYes X64.here hx rfl (pc0 := 401) (pc' := 408) rfl (hb hby at_401) rfl (feq (hc67)).2 (by decide) (by decide) ?_
        show Steps p.tables e below (T64.setTop (mkF m 408 (la0_64 p0 p1 p2 p3 p4 b0_64 b0_70) [])) t
        refine SGo.go (T' := T64) (g' := (mkF m 409 (la0_64 p0 p1 p2 p3 p4 b0_64 b0_70) [(.int (0 : Int32))])) (fun t k => ?_) ?_
        · show Steps p.tables e below (T64.setTop (mkF m 408 (la0_64 p0 p1 p2 p3 p4 b0_64 b0_70) [])) t
          refine XS.iconst X64.here hx rfl (hb hby at_408) ?_
          show Steps p.tables e below (T64.setTop (mkF m 409 (la0_64 p0 p1 p2 p3 p4 b0_64 b0_70) [(.int (0 : Int32))])) t
          exact k
        exact (own_k (f := fun (z : Int32) => mkF m 409 #[.val (.int p0), .val (.int p1), .val (.int p2), .val (.int p3), .val (.int p4), .val (.int (2 : Int32)), .val (.int (v0_11 p0 p1 p2 p3 p4)), .val (.int (v0_21 p0 p1 p2 p3 p4)), .val (.int (v0_32 p0 p1 p2 p3 p4)), .val (.int (v0_41 p0 p1 p2 p3 p4)), .val (.int (v0_50 p0 p1 p2 p3 p4)), .val (.int (v0_60 p0 p1 p2 p3 p4)), .val (.ref b0_64), .val (.ref b0_70), .val (.int (v0_11 p0 p1 p2 p3 p4)), .val (.int (v0_21 p0 p1 p2 p3 p4)), .val (.int (1 : Int32)), .val (.int (v0_41 p0 p1 p2 p3 p4)), .val (.int (v0_50 p0 p1 p2 p3 p4)), .val (.int (0 : Int32)), .val (.int (v0_217x p0 p1 p2 p3 p4)), .val (.int (v0_233x p0 p1 p2 p3 p4)), .val (.int (v0_242x p0 p1 p2 p3 p4)), .val (.int (v0_257 p0 p1 p2 p3 p4)), .val (.int (v0_273 p0 p1 p2 p3 p4)), .val (.int (0 : Int32)), .val (.int (v0_326xx p0 p1 p2 p3 p4)), .val (.int (v0_377x p0 p1 p2 p3 p4)), .val (.int (v0_393x p0 p1 p2 p3 p4)), .unset, .unset] [(.int z)]) (if_neg hc67) k)
    refine OEnd.go (T' := T64) (g' := (mkF m 413 (la0_65 p0 p1 p2 p3 p4 b0_64 b0_70) [(.int (v0_409x p0 p1 p2 p3 p4))])) (fun t k => ?_) ?_
    · show Steps p.tables e below (T64.setTop (mkF m 409 (la0_64 p0 p1 p2 p3 p4 b0_64 b0_70) [(.int (if ((v0_233x p0 p1 p2 p3 p4) + (1 : Int32)) = (v0_217x p0 p1 p2 p3 p4) then (1 : Int32) else (0 : Int32)))])) t
      refine XS.istore X64.here hx rfl (hb hby at_409) rfl (l' := (la0_65 p0 p1 p2 p3 p4 b0_64 b0_70)) rfl ?_
      show Steps p.tables e below (T64.setTop (mkF m 411 (la0_65 p0 p1 p2 p3 p4 b0_64 b0_70) [])) t
      refine XS.iload X64.here hx rfl (hb hby at_411) rfl ?_
      show Steps p.tables e below (T64.setTop (mkF m 413 (la0_65 p0 p1 p2 p3 p4 b0_64 b0_70) [(.int (v0_409x p0 p1 p2 p3 p4))])) t
      exact k
    refine OEnd.go (T' := T64) (g' := (mkF m 424 (la0_65 p0 p1 p2 p3 p4 b0_64 b0_70) [(.int (if (v0_409x p0 p1 p2 p3 p4) = (0 : Int32) then ((v0_233x p0 p1 p2 p3 p4) + (1 : Int32)) else (0 : Int32)))])) (fun t k => ?_) ?_
    · show Steps p.tables e below (T64.setTop (mkF m 413 (la0_65 p0 p1 p2 p3 p4 b0_64 b0_70) [(.int (v0_409x p0 p1 p2 p3 p4))])) t
      by_cases hc68 : (v0_409x p0 p1 p2 p3 p4) = (0 : Int32)
      · skip
        refine XS.ifYes X64.here hx rfl (pc0 := 413) (pc' := 420) rfl (hb hby at_413) rfl ((if0 _ _).trans (teq (hc68)).1) (by decide) (by decide) ?_
        show Steps p.tables e below (T64.setTop (mkF m 420 (la0_65 p0 p1 p2 p3 p4 b0_64 b0_70) [])) t
        refine SGo.go (T' := T64) (g' := (mkF m 424 (la0_65 p0 p1 p2 p3 p4 b0_64 b0_70) [(.int ((v0_233x p0 p1 p2 p3 p4) + (1 : Int32)))])) (fun t k => ?_) ?_
        · show Steps p.tables e below (T64.setTop (mkF m 420 (la0_65 p0 p1 p2 p3 p4 b0_64 b0_70) [])) t
          refine XS.iload X64.here hx rfl (hb hby at_420) rfl ?_
          show Steps p.tables e below (T64.setTop (mkF m 422 (la0_65 p0 p1 p2 p3 p4 b0_64 b0_70) [(.int (v0_233x p0 p1 p2 p3 p4))])) t
          refine XS.iconst X64.here hx rfl (hb hby at_422) ?_
          show Steps p.tables e below (T64.setTop (mkF m 423 (la0_65 p0 p1 p2 p3 p4 b0_64 b0_70) [(.int (1 : Int32)), (.int (v0_233x p0 p1 p2 p3 p4))])) t
          refine XS.iadd X64.here hx rfl (hb hby at_423) rfl ?_
          show Steps p.tables e below (T64.setTop (mkF m 424 (la0_65 p0 p1 p2 p3 p4 b0_64 b0_70) [(.int ((v0_233x p0 p1 p2 p3 p4) + (1 : Int32)))])) t
          exact k
        exact (own_k (f := fun (z : Int32) => mkF m 424 #[.val (.int p0), .val (.int p1), .val (.int p2), .val (.int p3), .val (.int p4), .val (.int (2 : Int32)), .val (.int (v0_11 p0 p1 p2 p3 p4)), .val (.int (v0_21 p0 p1 p2 p3 p4)), .val (.int (v0_32 p0 p1 p2 p3 p4)), .val (.int (v0_41 p0 p1 p2 p3 p4)), .val (.int (v0_50 p0 p1 p2 p3 p4)), .val (.int (v0_60 p0 p1 p2 p3 p4)), .val (.ref b0_64), .val (.ref b0_70), .val (.int (v0_11 p0 p1 p2 p3 p4)), .val (.int (v0_21 p0 p1 p2 p3 p4)), .val (.int (1 : Int32)), .val (.int (v0_41 p0 p1 p2 p3 p4)), .val (.int (v0_50 p0 p1 p2 p3 p4)), .val (.int (0 : Int32)), .val (.int (v0_217x p0 p1 p2 p3 p4)), .val (.int (v0_233x p0 p1 p2 p3 p4)), .val (.int (v0_242x p0 p1 p2 p3 p4)), .val (.int (v0_257 p0 p1 p2 p3 p4)), .val (.int (v0_273 p0 p1 p2 p3 p4)), .val (.int (0 : Int32)), .val (.int (v0_326xx p0 p1 p2 p3 p4)), .val (.int (v0_377x p0 p1 p2 p3 p4)), .val (.int (v0_393x p0 p1 p2 p3 p4)), .val (.int (v0_409x p0 p1 p2 p3 p4)), .unset] [(.int z)]) (if_pos hc68) k)
      · skip
        refine XS.ifNo X64.here hx rfl (hb hby at_413) rfl ((if0 _ _).trans (feq (hc68)).1) ?_
        show Steps p.tables e below (T64.setTop (mkF m 416 (la0_65 p0 p1 p2 p3 p4 b0_64 b0_70) [])) t
        refine SGo.go (T' := T64) (g' := (mkF m 424 (la0_65 p0 p1 p2 p3 p4 b0_64 b0_70) [(.int (0 : Int32))])) (fun t k => ?_) ?_
        · show Steps p.tables e below (T64.setTop (mkF m 416 (la0_65 p0 p1 p2 p3 p4 b0_64 b0_70) [])) t
          refine XS.iconst X64.here hx rfl (hb hby at_416) ?_
          show Steps p.tables e below (T64.setTop (mkF m 417 (la0_65 p0 p1 p2 p3 p4 b0_64 b0_70) [(.int (0 : Int32))])) t
          refine XS.goto X64.here hx rfl (pc0 := 417) (pc' := 424) rfl (hb hby at_417) (by decide) (by decide) ?_
          show Steps p.tables e below (T64.setTop (mkF m 424 (la0_65 p0 p1 p2 p3 p4 b0_64 b0_70) [(.int (0 : Int32))])) t
          exact k
        exact (own_k (f := fun (z : Int32) => mkF m 424 #[.val (.int p0), .val (.int p1), .val (.int p2), .val (.int p3), .val (.int p4), .val (.int (2 : Int32)), .val (.int (v0_11 p0 p1 p2 p3 p4)), .val (.int (v0_21 p0 p1 p2 p3 p4)), .val (.int (v0_32 p0 p1 p2 p3 p4)), .val (.int (v0_41 p0 p1 p2 p3 p4)), .val (.int (v0_50 p0 p1 p2 p3 p4)), .val (.int (v0_60 p0 p1 p2 p3 p4)), .val (.ref b0_64), .val (.ref b0_70), .val (.int (v0_11 p0 p1 p2 p3 p4)), .val (.int (v0_21 p0 p1 p2 p3 p4)), .val (.int (1 : Int32)), .val (.int (v0_41 p0 p1 p2 p3 p4)), .val (.int (v0_50 p0 p1 p2 p3 p4)), .val (.int (0 : Int32)), .val (.int (v0_217x p0 p1 p2 p3 p4)), .val (.int (v0_233x p0 p1 p2 p3 p4)), .val (.int (v0_242x p0 p1 p2 p3 p4)), .val (.int (v0_257 p0 p1 p2 p3 p4)), .val (.int (v0_273 p0 p1 p2 p3 p4)), .val (.int (0 : Int32)), .val (.int (v0_326xx p0 p1 p2 p3 p4)), .val (.int (v0_377x p0 p1 p2 p3 p4)), .val (.int (v0_393x p0 p1 p2 p3 p4)), .val (.int (v0_409x p0 p1 p2 p3 p4)), .unset] [(.int z)]) (if_neg hc68) k)
    refine OEnd.go (T' := T64) (g' := (mkF m 428 (la0_66 p0 p1 p2 p3 p4 b0_64 b0_70) [(.int (v0_326xx p0 p1 p2 p3 p4))])) (fun t k => ?_) ?_
    · show Steps p.tables e below (T64.setTop (mkF m 424 (la0_65 p0 p1 p2 p3 p4 b0_64 b0_70) [(.int (if (v0_409x p0 p1 p2 p3 p4) = (0 : Int32) then ((v0_233x p0 p1 p2 p3 p4) + (1 : Int32)) else (0 : Int32)))])) t
      refine XS.istore X64.here hx rfl (hb hby at_424) rfl (l' := (la0_66 p0 p1 p2 p3 p4 b0_64 b0_70)) rfl ?_
      show Steps p.tables e below (T64.setTop (mkF m 426 (la0_66 p0 p1 p2 p3 p4 b0_64 b0_70) [])) t
      refine XS.iload X64.here hx rfl (hb hby at_426) rfl ?_
      show Steps p.tables e below (T64.setTop (mkF m 428 (la0_66 p0 p1 p2 p3 p4 b0_64 b0_70) [(.int (v0_326xx p0 p1 p2 p3 p4))])) t
      exact k
    refine OEnd.go (T' := T64) (g' := (mkF m 463 (la0_66 p0 p1 p2 p3 p4 b0_64 b0_70) [(.int (if (v0_326xx p0 p1 p2 p3 p4) = (0 : Int32) then (0 : Int32) else (if (v0_377x p0 p1 p2 p3 p4) = (0 : Int32) then (0 : Int32) else (if (v0_242x p0 p1 p2 p3 p4) = (v0_448_s0x p0 p1 p2 p3 p4) then (if (v0_393x p0 p1 p2 p3 p4) = (v0_424x p0 p1 p2 p3 p4) then (1 : Int32) else (0 : Int32)) else (0 : Int32)))))])) (fun t k => ?_) ?_
    · show Steps p.tables e below (T64.setTop (mkF m 428 (la0_66 p0 p1 p2 p3 p4 b0_64 b0_70) [(.int (v0_326xx p0 p1 p2 p3 p4))])) t
      by_cases hc69 : (v0_326xx p0 p1 p2 p3 p4) = (0 : Int32)
      · skip
        refine XS.ifYes X64.here hx rfl (pc0 := 428) (pc' := 462) rfl (hb hby at_428) rfl ((if0 _ _).trans (teq (hc69)).1) (by decide) (by decide) ?_
        show Steps p.tables e below (T64.setTop (mkF m 462 (la0_66 p0 p1 p2 p3 p4 b0_64 b0_70) [])) t
        refine SGo.go (T' := T64) (g' := (mkF m 463 (la0_66 p0 p1 p2 p3 p4 b0_64 b0_70) [(.int (0 : Int32))])) (fun t k => ?_) ?_
        · show Steps p.tables e below (T64.setTop (mkF m 462 (la0_66 p0 p1 p2 p3 p4 b0_64 b0_70) [])) t
          refine XS.iconst X64.here hx rfl (hb hby at_462) ?_
          show Steps p.tables e below (T64.setTop (mkF m 463 (la0_66 p0 p1 p2 p3 p4 b0_64 b0_70) [(.int (0 : Int32))])) t
          exact k
        exact (own_k (f := fun (z : Int32) => mkF m 463 #[.val (.int p0), .val (.int p1), .val (.int p2), .val (.int p3), .val (.int p4), .val (.int (2 : Int32)), .val (.int (v0_11 p0 p1 p2 p3 p4)), .val (.int (v0_21 p0 p1 p2 p3 p4)), .val (.int (v0_32 p0 p1 p2 p3 p4)), .val (.int (v0_41 p0 p1 p2 p3 p4)), .val (.int (v0_50 p0 p1 p2 p3 p4)), .val (.int (v0_60 p0 p1 p2 p3 p4)), .val (.ref b0_64), .val (.ref b0_70), .val (.int (v0_11 p0 p1 p2 p3 p4)), .val (.int (v0_21 p0 p1 p2 p3 p4)), .val (.int (1 : Int32)), .val (.int (v0_41 p0 p1 p2 p3 p4)), .val (.int (v0_50 p0 p1 p2 p3 p4)), .val (.int (0 : Int32)), .val (.int (v0_217x p0 p1 p2 p3 p4)), .val (.int (v0_233x p0 p1 p2 p3 p4)), .val (.int (v0_242x p0 p1 p2 p3 p4)), .val (.int (v0_257 p0 p1 p2 p3 p4)), .val (.int (v0_273 p0 p1 p2 p3 p4)), .val (.int (0 : Int32)), .val (.int (v0_326xx p0 p1 p2 p3 p4)), .val (.int (v0_377x p0 p1 p2 p3 p4)), .val (.int (v0_393x p0 p1 p2 p3 p4)), .val (.int (v0_409x p0 p1 p2 p3 p4)), .val (.int (v0_424x p0 p1 p2 p3 p4))] [(.int z)]) (if_pos hc69) k)
      · skip
        refine XS.ifNo X64.here hx rfl (hb hby at_428) rfl ((if0 _ _).trans (feq (hc69)).1) ?_
        show Steps p.tables e below (T64.setTop (mkF m 431 (la0_66 p0 p1 p2 p3 p4 b0_64 b0_70) [])) t
        refine SGo.go (T' := T64) (g' := (mkF m 433 (la0_66 p0 p1 p2 p3 p4 b0_64 b0_70) [(.int (v0_377x p0 p1 p2 p3 p4))])) (fun t k => ?_) ?_
        · show Steps p.tables e below (T64.setTop (mkF m 431 (la0_66 p0 p1 p2 p3 p4 b0_64 b0_70) [])) t
          refine XS.iload X64.here hx rfl (hb hby at_431) rfl ?_
          show Steps p.tables e below (T64.setTop (mkF m 433 (la0_66 p0 p1 p2 p3 p4 b0_64 b0_70) [(.int (v0_377x p0 p1 p2 p3 p4))])) t
          exact k
        by_cases hc70 : (v0_377x p0 p1 p2 p3 p4) = (0 : Int32)
        · skip
          refine XS.ifYes X64.here hx rfl (pc0 := 433) (pc' := 462) rfl (hb hby at_433) rfl ((if0 _ _).trans (teq (hc70)).1) (by decide) (by decide) ?_
          show Steps p.tables e below (T64.setTop (mkF m 462 (la0_66 p0 p1 p2 p3 p4 b0_64 b0_70) [])) t
          refine SGo.go (T' := T64) (g' := (mkF m 463 (la0_66 p0 p1 p2 p3 p4 b0_64 b0_70) [(.int (0 : Int32))])) (fun t k => ?_) ?_
          · show Steps p.tables e below (T64.setTop (mkF m 462 (la0_66 p0 p1 p2 p3 p4 b0_64 b0_70) [])) t
            refine XS.iconst X64.here hx rfl (hb hby at_462) ?_
            show Steps p.tables e below (T64.setTop (mkF m 463 (la0_66 p0 p1 p2 p3 p4 b0_64 b0_70) [(.int (0 : Int32))])) t
            exact k
          exact (own_k (f := fun (z : Int32) => mkF m 463 #[.val (.int p0), .val (.int p1), .val (.int p2), .val (.int p3), .val (.int p4), .val (.int (2 : Int32)), .val (.int (v0_11 p0 p1 p2 p3 p4)), .val (.int (v0_21 p0 p1 p2 p3 p4)), .val (.int (v0_32 p0 p1 p2 p3 p4)), .val (.int (v0_41 p0 p1 p2 p3 p4)), .val (.int (v0_50 p0 p1 p2 p3 p4)), .val (.int (v0_60 p0 p1 p2 p3 p4)), .val (.ref b0_64), .val (.ref b0_70), .val (.int (v0_11 p0 p1 p2 p3 p4)), .val (.int (v0_21 p0 p1 p2 p3 p4)), .val (.int (1 : Int32)), .val (.int (v0_41 p0 p1 p2 p3 p4)), .val (.int (v0_50 p0 p1 p2 p3 p4)), .val (.int (0 : Int32)), .val (.int (v0_217x p0 p1 p2 p3 p4)), .val (.int (v0_233x p0 p1 p2 p3 p4)), .val (.int (v0_242x p0 p1 p2 p3 p4)), .val (.int (v0_257 p0 p1 p2 p3 p4)), .val (.int (v0_273 p0 p1 p2 p3 p4)), .val (.int (0 : Int32)), .val (.int (v0_326xx p0 p1 p2 p3 p4)), .val (.int (v0_377x p0 p1 p2 p3 p4)), .val (.int (v0_393x p0 p1 p2 p3 p4)), .val (.int (v0_409x p0 p1 p2 p3 p4)), .val (.int (v0_424x p0 p1 p2 p3 p4))] [(.int z)]) ((if_neg hc69).trans (if_pos hc70)) k)
        · skip
          refine XS.ifNo X64.here hx rfl (hb hby at_433) rfl ((if0 _ _).trans (feq (hc70)).1) ?_
          show Steps p.tables e below (T64.setTop (mkF m 436 (la0_66 p0 p1 p2 p3 p4 b0_64 b0_70) [])) t
          refine SGo.go (T' := T64) (g' := (mkF m 440 (la0_66 p0 p1 p2 p3 p4 b0_64 b0_70) [(.int (v0_409x p0 p1 p2 p3 p4)), (.int (v0_242x p0 p1 p2 p3 p4))])) (fun t k => ?_) ?_
          · show Steps p.tables e below (T64.setTop (mkF m 436 (la0_66 p0 p1 p2 p3 p4 b0_64 b0_70) [])) t
            refine XS.iload X64.here hx rfl (hb hby at_436) rfl ?_
            show Steps p.tables e below (T64.setTop (mkF m 438 (la0_66 p0 p1 p2 p3 p4 b0_64 b0_70) [(.int (v0_242x p0 p1 p2 p3 p4))])) t
            refine XS.iload X64.here hx rfl (hb hby at_438) rfl ?_
            show Steps p.tables e below (T64.setTop (mkF m 440 (la0_66 p0 p1 p2 p3 p4 b0_64 b0_70) [(.int (v0_409x p0 p1 p2 p3 p4)), (.int (v0_242x p0 p1 p2 p3 p4))])) t
            exact k
          refine SGo.go (T' := T64) (g' := (mkF m 448 (la0_66 p0 p1 p2 p3 p4 b0_64 b0_70) [(.int (if (v0_409x p0 p1 p2 p3 p4) = (0 : Int32) then (1 : Int32) else (0 : Int32))), (.int (v0_242x p0 p1 p2 p3 p4))])) (fun t k => ?_) ?_
          · show Steps p.tables e below (T64.setTop (mkF m 440 (la0_66 p0 p1 p2 p3 p4 b0_64 b0_70) [(.int (v0_409x p0 p1 p2 p3 p4)), (.int (v0_242x p0 p1 p2 p3 p4))])) t
            by_cases hc71 : (v0_409x p0 p1 p2 p3 p4) = (0 : Int32)
            · skip
              refine XS.ifNo X64.here hx rfl (hb hby at_440) rfl ((if0 _ _).trans (teq (hc71)).2) ?_
              show Steps p.tables e below (T64.setTop (mkF m 443 (la0_66 p0 p1 p2 p3 p4 b0_64 b0_70) [(.int (v0_242x p0 p1 p2 p3 p4))])) t
              refine SGo.go (T' := T64) (g' := (mkF m 448 (la0_66 p0 p1 p2 p3 p4 b0_64 b0_70) [(.int (1 : Int32)), (.int (v0_242x p0 p1 p2 p3 p4))])) (fun t k => ?_) ?_
              · show Steps p.tables e below (T64.setTop (mkF m 443 (la0_66 p0 p1 p2 p3 p4 b0_64 b0_70) [(.int (v0_242x p0 p1 p2 p3 p4))])) t
                refine XS.iconst X64.here hx rfl (hb hby at_443) ?_
                show Steps p.tables e below (T64.setTop (mkF m 444 (la0_66 p0 p1 p2 p3 p4 b0_64 b0_70) [(.int (1 : Int32)), (.int (v0_242x p0 p1 p2 p3 p4))])) t
                refine XS.goto X64.here hx rfl (pc0 := 444) (pc' := 448) rfl (hb hby at_444) (by decide) (by decide) ?_
                show Steps p.tables e below (T64.setTop (mkF m 448 (la0_66 p0 p1 p2 p3 p4 b0_64 b0_70) [(.int (1 : Int32)), (.int (v0_242x p0 p1 p2 p3 p4))])) t
                exact k
              exact (own_k (f := fun (z : Int32) => mkF m 448 #[.val (.int p0), .val (.int p1), .val (.int p2), .val (.int p3), .val (.int p4), .val (.int (2 : Int32)), .val (.int (v0_11 p0 p1 p2 p3 p4)), .val (.int (v0_21 p0 p1 p2 p3 p4)), .val (.int (v0_32 p0 p1 p2 p3 p4)), .val (.int (v0_41 p0 p1 p2 p3 p4)), .val (.int (v0_50 p0 p1 p2 p3 p4)), .val (.int (v0_60 p0 p1 p2 p3 p4)), .val (.ref b0_64), .val (.ref b0_70), .val (.int (v0_11 p0 p1 p2 p3 p4)), .val (.int (v0_21 p0 p1 p2 p3 p4)), .val (.int (1 : Int32)), .val (.int (v0_41 p0 p1 p2 p3 p4)), .val (.int (v0_50 p0 p1 p2 p3 p4)), .val (.int (0 : Int32)), .val (.int (v0_217x p0 p1 p2 p3 p4)), .val (.int (v0_233x p0 p1 p2 p3 p4)), .val (.int (v0_242x p0 p1 p2 p3 p4)), .val (.int (v0_257 p0 p1 p2 p3 p4)), .val (.int (v0_273 p0 p1 p2 p3 p4)), .val (.int (0 : Int32)), .val (.int (v0_326xx p0 p1 p2 p3 p4)), .val (.int (v0_377x p0 p1 p2 p3 p4)), .val (.int (v0_393x p0 p1 p2 p3 p4)), .val (.int (v0_409x p0 p1 p2 p3 p4)), .val (.int (v0_424x p0 p1 p2 p3 p4))] [(.int z), (.int (v0_242x p0 p1 p2 p3 p4))]) (if_pos hc71) k)
            · skip
              refine XS.ifYes X64.here hx rfl (pc0 := 440) (pc' := 447) rfl (hb hby at_440) rfl ((if0 _ _).trans (feq (hc71)).2) (by decide) (by decide) ?_
              show Steps p.tables e below (T64.setTop (mkF m 447 (la0_66 p0 p1 p2 p3 p4 b0_64 b0_70) [(.int (v0_242x p0 p1 p2 p3 p4))])) t
              refine SGo.go (T' := T64) (g' := (mkF m 448 (la0_66 p0 p1 p2 p3 p4 b0_64 b0_70) [(.int (0 : Int32)), (.int (v0_242x p0 p1 p2 p3 p4))])) (fun t k => ?_) ?_
              · show Steps p.tables e below (T64.setTop (mkF m 447 (la0_66 p0 p1 p2 p3 p4 b0_64 b0_70) [(.int (v0_242x p0 p1 p2 p3 p4))])) t
                refine XS.iconst X64.here hx rfl (hb hby at_447) ?_
                show Steps p.tables e below (T64.setTop (mkF m 448 (la0_66 p0 p1 p2 p3 p4 b0_64 b0_70) [(.int (0 : Int32)), (.int (v0_242x p0 p1 p2 p3 p4))])) t
                exact k
              exact (own_k (f := fun (z : Int32) => mkF m 448 #[.val (.int p0), .val (.int p1), .val (.int p2), .val (.int p3), .val (.int p4), .val (.int (2 : Int32)), .val (.int (v0_11 p0 p1 p2 p3 p4)), .val (.int (v0_21 p0 p1 p2 p3 p4)), .val (.int (v0_32 p0 p1 p2 p3 p4)), .val (.int (v0_41 p0 p1 p2 p3 p4)), .val (.int (v0_50 p0 p1 p2 p3 p4)), .val (.int (v0_60 p0 p1 p2 p3 p4)), .val (.ref b0_64), .val (.ref b0_70), .val (.int (v0_11 p0 p1 p2 p3 p4)), .val (.int (v0_21 p0 p1 p2 p3 p4)), .val (.int (1 : Int32)), .val (.int (v0_41 p0 p1 p2 p3 p4)), .val (.int (v0_50 p0 p1 p2 p3 p4)), .val (.int (0 : Int32)), .val (.int (v0_217x p0 p1 p2 p3 p4)), .val (.int (v0_233x p0 p1 p2 p3 p4)), .val (.int (v0_242x p0 p1 p2 p3 p4)), .val (.int (v0_257 p0 p1 p2 p3 p4)), .val (.int (v0_273 p0 p1 p2 p3 p4)), .val (.int (0 : Int32)), .val (.int (v0_326xx p0 p1 p2 p3 p4)), .val (.int (v0_377x p0 p1 p2 p3 p4)), .val (.int (v0_393x p0 p1 p2 p3 p4)), .val (.int (v0_409x p0 p1 p2 p3 p4)), .val (.int (v0_424x p0 p1 p2 p3 p4))] [(.int z), (.int (v0_242x p0 p1 p2 p3 p4))]) (if_neg hc71) k)
          by_cases hc72 : (v0_242x p0 p1 p2 p3 p4) = (v0_448_s0x p0 p1 p2 p3 p4)
          · skip
            refine XS.icmpNo X64.here hx rfl (hb hby at_448) rfl (teq (hc72)).2 ?_
            show Steps p.tables e below (T64.setTop (mkF m 451 (la0_66 p0 p1 p2 p3 p4 b0_64 b0_70) [])) t
            refine SGo.go (T' := T64) (g' := (mkF m 455 (la0_66 p0 p1 p2 p3 p4 b0_64 b0_70) [(.int (v0_424x p0 p1 p2 p3 p4)), (.int (v0_393x p0 p1 p2 p3 p4))])) (fun t k => ?_) ?_
            · show Steps p.tables e below (T64.setTop (mkF m 451 (la0_66 p0 p1 p2 p3 p4 b0_64 b0_70) [])) t
              refine XS.iload X64.here hx rfl (hb hby at_451) rfl ?_
              show Steps p.tables e below (T64.setTop (mkF m 453 (la0_66 p0 p1 p2 p3 p4 b0_64 b0_70) [(.int (v0_393x p0 p1 p2 p3 p4))])) t
              refine XS.iload X64.here hx rfl (hb hby at_453) rfl ?_
              show Steps p.tables e below (T64.setTop (mkF m 455 (la0_66 p0 p1 p2 p3 p4 b0_64 b0_70) [(.int (v0_424x p0 p1 p2 p3 p4)), (.int (v0_393x p0 p1 p2 p3 p4))])) t
              exact k
            by_cases hc73 : (v0_393x p0 p1 p2 p3 p4) = (v0_424x p0 p1 p2 p3 p4)
            · skip
              refine XS.icmpNo X64.here hx rfl (hb hby at_455) rfl (teq (hc73)).2 ?_
              show Steps p.tables e below (T64.setTop (mkF m 458 (la0_66 p0 p1 p2 p3 p4 b0_64 b0_70) [])) t
              refine SGo.go (T' := T64) (g' := (mkF m 463 (la0_66 p0 p1 p2 p3 p4 b0_64 b0_70) [(.int (1 : Int32))])) (fun t k => ?_) ?_
              · show Steps p.tables e below (T64.setTop (mkF m 458 (la0_66 p0 p1 p2 p3 p4 b0_64 b0_70) [])) t
                refine XS.iconst X64.here hx rfl (hb hby at_458) ?_
                show Steps p.tables e below (T64.setTop (mkF m 459 (la0_66 p0 p1 p2 p3 p4 b0_64 b0_70) [(.int (1 : Int32))])) t
                refine XS.goto X64.here hx rfl (pc0 := 459) (pc' := 463) rfl (hb hby at_459) (by decide) (by decide) ?_
                show Steps p.tables e below (T64.setTop (mkF m 463 (la0_66 p0 p1 p2 p3 p4 b0_64 b0_70) [(.int (1 : Int32))])) t
                exact k
              exact (own_k (f := fun (z : Int32) => mkF m 463 #[.val (.int p0), .val (.int p1), .val (.int p2), .val (.int p3), .val (.int p4), .val (.int (2 : Int32)), .val (.int (v0_11 p0 p1 p2 p3 p4)), .val (.int (v0_21 p0 p1 p2 p3 p4)), .val (.int (v0_32 p0 p1 p2 p3 p4)), .val (.int (v0_41 p0 p1 p2 p3 p4)), .val (.int (v0_50 p0 p1 p2 p3 p4)), .val (.int (v0_60 p0 p1 p2 p3 p4)), .val (.ref b0_64), .val (.ref b0_70), .val (.int (v0_11 p0 p1 p2 p3 p4)), .val (.int (v0_21 p0 p1 p2 p3 p4)), .val (.int (1 : Int32)), .val (.int (v0_41 p0 p1 p2 p3 p4)), .val (.int (v0_50 p0 p1 p2 p3 p4)), .val (.int (0 : Int32)), .val (.int (v0_217x p0 p1 p2 p3 p4)), .val (.int (v0_233x p0 p1 p2 p3 p4)), .val (.int (v0_242x p0 p1 p2 p3 p4)), .val (.int (v0_257 p0 p1 p2 p3 p4)), .val (.int (v0_273 p0 p1 p2 p3 p4)), .val (.int (0 : Int32)), .val (.int (v0_326xx p0 p1 p2 p3 p4)), .val (.int (v0_377x p0 p1 p2 p3 p4)), .val (.int (v0_393x p0 p1 p2 p3 p4)), .val (.int (v0_409x p0 p1 p2 p3 p4)), .val (.int (v0_424x p0 p1 p2 p3 p4))] [(.int z)]) ((if_neg hc69).trans ((if_neg hc70).trans ((if_pos hc72).trans (if_pos hc73)))) k)
            · skip
              refine XS.icmpYes X64.here hx rfl (pc0 := 455) (pc' := 462) rfl (hb hby at_455) rfl (feq (hc73)).2 (by decide) (by decide) ?_
              show Steps p.tables e below (T64.setTop (mkF m 462 (la0_66 p0 p1 p2 p3 p4 b0_64 b0_70) [])) t
              refine SGo.go (T' := T64) (g' := (mkF m 463 (la0_66 p0 p1 p2 p3 p4 b0_64 b0_70) [(.int (0 : Int32))])) (fun t k => ?_) ?_
              · show Steps p.tables e below (T64.setTop (mkF m 462 (la0_66 p0 p1 p2 p3 p4 b0_64 b0_70) [])) t
                refine XS.iconst X64.here hx rfl (hb hby at_462) ?_
                show Steps p.tables e below (T64.setTop (mkF m 463 (la0_66 p0 p1 p2 p3 p4 b0_64 b0_70) [(.int (0 : Int32))])) t
                exact k
              exact (own_k (f := fun (z : Int32) => mkF m 463 #[.val (.int p0), .val (.int p1), .val (.int p2), .val (.int p3), .val (.int p4), .val (.int (2 : Int32)), .val (.int (v0_11 p0 p1 p2 p3 p4)), .val (.int (v0_21 p0 p1 p2 p3 p4)), .val (.int (v0_32 p0 p1 p2 p3 p4)), .val (.int (v0_41 p0 p1 p2 p3 p4)), .val (.int (v0_50 p0 p1 p2 p3 p4)), .val (.int (v0_60 p0 p1 p2 p3 p4)), .val (.ref b0_64), .val (.ref b0_70), .val (.int (v0_11 p0 p1 p2 p3 p4)), .val (.int (v0_21 p0 p1 p2 p3 p4)), .val (.int (1 : Int32)), .val (.int (v0_41 p0 p1 p2 p3 p4)), .val (.int (v0_50 p0 p1 p2 p3 p4)), .val (.int (0 : Int32)), .val (.int (v0_217x p0 p1 p2 p3 p4)), .val (.int (v0_233x p0 p1 p2 p3 p4)), .val (.int (v0_242x p0 p1 p2 p3 p4)), .val (.int (v0_257 p0 p1 p2 p3 p4)), .val (.int (v0_273 p0 p1 p2 p3 p4)), .val (.int (0 : Int32)), .val (.int (v0_326xx p0 p1 p2 p3 p4)), .val (.int (v0_377x p0 p1 p2 p3 p4)), .val (.int (v0_393x p0 p1 p2 p3 p4)), .val (.int (v0_409x p0 p1 p2 p3 p4)), .val (.int (v0_424x p0 p1 p2 p3 p4))] [(.int z)]) ((if_neg hc69).trans ((if_neg hc70).trans ((if_pos hc72).trans (if_neg hc73)))) k)
          · skip
            refine XS.icmpYes X64.here hx rfl (pc0 := 448) (pc' := 462) rfl (hb hby at_448) rfl (feq (hc72)).2 (by decide) (by decide) ?_
            show Steps p.tables e below (T64.setTop (mkF m 462 (la0_66 p0 p1 p2 p3 p4 b0_64 b0_70) [])) t
            refine SGo.go (T' := T64) (g' := (mkF m 463 (la0_66 p0 p1 p2 p3 p4 b0_64 b0_70) [(.int (0 : Int32))])) (fun t k => ?_) ?_
            · show Steps p.tables e below (T64.setTop (mkF m 462 (la0_66 p0 p1 p2 p3 p4 b0_64 b0_70) [])) t
              refine XS.iconst X64.here hx rfl (hb hby at_462) ?_
              show Steps p.tables e below (T64.setTop (mkF m 463 (la0_66 p0 p1 p2 p3 p4 b0_64 b0_70) [(.int (0 : Int32))])) t
              exact k
            exact (own_k (f := fun (z : Int32) => mkF m 463 #[.val (.int p0), .val (.int p1), .val (.int p2), .val (.int p3), .val (.int p4), .val (.int (2 : Int32)), .val (.int (v0_11 p0 p1 p2 p3 p4)), .val (.int (v0_21 p0 p1 p2 p3 p4)), .val (.int (v0_32 p0 p1 p2 p3 p4)), .val (.int (v0_41 p0 p1 p2 p3 p4)), .val (.int (v0_50 p0 p1 p2 p3 p4)), .val (.int (v0_60 p0 p1 p2 p3 p4)), .val (.ref b0_64), .val (.ref b0_70), .val (.int (v0_11 p0 p1 p2 p3 p4)), .val (.int (v0_21 p0 p1 p2 p3 p4)), .val (.int (1 : Int32)), .val (.int (v0_41 p0 p1 p2 p3 p4)), .val (.int (v0_50 p0 p1 p2 p3 p4)), .val (.int (0 : Int32)), .val (.int (v0_217x p0 p1 p2 p3 p4)), .val (.int (v0_233x p0 p1 p2 p3 p4)), .val (.int (v0_242x p0 p1 p2 p3 p4)), .val (.int (v0_257 p0 p1 p2 p3 p4)), .val (.int (v0_273 p0 p1 p2 p3 p4)), .val (.int (0 : Int32)), .val (.int (v0_326xx p0 p1 p2 p3 p4)), .val (.int (v0_377x p0 p1 p2 p3 p4)), .val (.int (v0_393x p0 p1 p2 p3 p4)), .val (.int (v0_409x p0 p1 p2 p3 p4)), .val (.int (v0_424x p0 p1 p2 p3 p4))] [(.int z)]) ((if_neg hc69).trans ((if_neg hc70).trans (if_neg hc72))) k)
    exact OEnd.nar X64 hx (t := .boolean) Bd.returns (by simp) hlk (hb hby at_463) ⟨(congrArg (fun z => some (Value.int (nar .boolean z))) (own_plain_2 p0 p1 p2 p3 p4)), N64⟩ (by decide) (by decide)
  · skip
    refine OEnd.go (T' := s₁) (g' := (mkF m 62 (la0_67 p0 p1 p2 p3 p4) [])) (fun t k => (own_k (f := fun (z : Int32) => mkF m 62 #[.val (.int p0), .val (.int p1), .val (.int p2), .val (.int p3), .val (.int p4), .val (.int z), .val (.int (v0_11 p0 p1 p2 p3 p4)), .val (.int (v0_21 p0 p1 p2 p3 p4)), .val (.int (v0_32 p0 p1 p2 p3 p4)), .val (.int (v0_41 p0 p1 p2 p3 p4)), .val (.int (v0_50 p0 p1 p2 p3 p4)), .val (.int (v0_60 p0 p1 p2 p3 p4)), .unset, .unset, .unset, .unset, .unset, .unset, .unset, .unset, .unset, .unset, .unset, .unset, .unset, .unset, .unset, .unset, .unset, .unset, .unset] []) hs1.symm k)) ?_
    refine OEnd.go (T' := s₁) (g' := (mkF m 64 (la0_67 p0 p1 p2 p3 p4) [(.int (3 : Int32))])) (fun t k => ?_) ?_
    · show Steps p.tables e below (s₁.setTop (mkF m 62 (la0_67 p0 p1 p2 p3 p4) [])) t
      refine XS.iload X0.here hx rfl (hb hby at_62) rfl ?_
      show Steps p.tables e below (s₁.setTop (mkF m 64 (la0_67 p0 p1 p2 p3 p4) [(.int (3 : Int32))])) t
      exact k
    obtain ⟨T74, h74, k74, X74, e74, E74, A74, st74⟩ := newP X0 hx hZ (hw _ (List.mem_of_getElem? (i := 1) rfl)) e0 (g := (mkF m 64 (la0_67 p0 p1 p2 p3 p4) [(.int (3 : Int32))])) rfl (hb hby at_64) rfl (by decide) (cap := 3) (by decide) (by decide) (by decide) (by decide)
    obtain ⟨b0_64, g74⟩ : ∃ z, z = h0.size := ⟨_, rfl⟩
    rw [← g74] at A74 st74
    have gle_b0_64 : n0 ≤ b0_64 := Nat.le_trans Z0 (Nat.le_of_eq g74.symm)
    have Z74 : n0 ≤ h74.size := Nat.le_trans Z0 E74.1
    have V74 : OArr Z h74 b0_64 .int (3 : Int32) [(.int (0 : Int32)), (.int (0 : Int32)), (.int (0 : Int32))] (.int (0 : Int32)) := ⟨_, (Arv.new A74 (by decide)).pad (pad_rep [] (.int (0 : Int32)) 3)⟩
    refine OEnd.go (g' := (mkF m 66 (la0_67 p0 p1 p2 p3 p4) [(.ref b0_64)])) st74 ?_
    refine OEnd.go (T' := T74) (g' := (mkF m 70 (la0_68 p0 p1 p2 p3 p4 b0_64) [(.int (3 : Int32))])) (fun t k => ?_) ?_
    · show Steps p.tables e below (T74.setTop (mkF m 66 (la0_67 p0 p1 p2 p3 p4) [(.ref b0_64)])) t
      refine XS.astore X74.here hx rfl (hb hby at_66) rfl rfl (l' := (la0_68 p0 p1 p2 p3 p4 b0_64)) rfl ?_
      show Steps p.tables e below (T74.setTop (mkF m 68 (la0_68 p0 p1 p2 p3 p4 b0_64) [])) t
      refine XS.iload X74.here hx rfl (hb hby at_68) rfl ?_
      show Steps p.tables e below (T74.setTop (mkF m 70 (la0_68 p0 p1 p2 p3 p4 b0_64) [(.int (3 : Int32))])) t
      exact k
    obtain ⟨T75, h75, k75, X75, e75, E75, A75, st75⟩ := newP X74 hx hZ (hw _ (List.mem_of_getElem? (i := 1) rfl)) e74 (g := (mkF m 70 (la0_68 p0 p1 p2 p3 p4 b0_64) [(.int (3 : Int32))])) rfl (hb hby at_70) rfl (by decide) (cap := 3) (by decide) (by decide) (by decide) (by decide)
    obtain ⟨b0_70, g75⟩ : ∃ z, z = h74.size := ⟨_, rfl⟩
    rw [← g75] at A75 st75
    have gle_b0_70 : n0 ≤ b0_70 := Nat.le_trans Z74 (Nat.le_of_eq g75.symm)
    have ne_b0_64_b0_70 : b0_64 ≠ b0_70 := Nat.ne_of_lt (Nat.lt_of_lt_of_le V74.lt (Nat.le_of_eq g75.symm))
    have fc76 : OArr Z h75 b0_64 .int (3 : Int32) [(.int (0 : Int32)), (.int (0 : Int32)), (.int (0 : Int32))] (.int (0 : Int32)) := (V74.ext E75)
    have Z75 : n0 ≤ h75.size := Nat.le_trans Z74 E75.1
    have V75 : OArr Z h75 b0_70 .int (3 : Int32) [(.int (0 : Int32)), (.int (0 : Int32)), (.int (0 : Int32))] (.int (0 : Int32)) := ⟨_, (Arv.new A75 (by decide)).pad (pad_rep [] (.int (0 : Int32)) 3)⟩
    refine OEnd.go (g' := (mkF m 72 (la0_68 p0 p1 p2 p3 p4 b0_64) [(.ref b0_70)])) st75 ?_
    refine OEnd.go (T' := T75) (g' := (mkF m 84 (la0_69 p0 p1 p2 p3 p4 b0_64 b0_70) [(.int (v0_11 p0 p1 p2 p3 p4)), (.int (0 : Int32)), (.ref b0_64)])) (fun t k => ?_) ?_
    · show Steps p.tables e below (T75.setTop (mkF m 72 (la0_68 p0 p1 p2 p3 p4 b0_64) [(.ref b0_70)])) t
      refine XS.astore X75.here hx rfl (hb hby at_72) rfl rfl (l' := (la0_69 p0 p1 p2 p3 p4 b0_64 b0_70)) rfl ?_
      show Steps p.tables e below (T75.setTop (mkF m 74 (la0_69 p0 p1 p2 p3 p4 b0_64 b0_70) [])) t
      refine XS.iload X75.here hx rfl (hb hby at_74) rfl ?_
      show Steps p.tables e below (T75.setTop (mkF m 76 (la0_69 p0 p1 p2 p3 p4 b0_64 b0_70) [(.int (3 : Int32))])) t
      refine XS.ifNo X75.here hx rfl (hb hby at_76) rfl ((if0 _ _).trans (tlt ((by decide))).2.2.2) ?_
      show Steps p.tables e below (T75.setTop (mkF m 79 (la0_69 p0 p1 p2 p3 p4 b0_64 b0_70) [])) t
      refine XS.aload X75.here hx rfl (hb hby at_79) rfl rfl ?_
      show Steps p.tables e below (T75.setTop (mkF m 81 (la0_69 p0 p1 p2 p3 p4 b0_64 b0_70) [(.ref b0_64)])) t
      refine XS.iconst X75.here hx rfl (hb hby at_81) ?_
      show Steps p.tables e below (T75.setTop (mkF m 82 (la0_69 p0 p1 p2 p3 p4 b0_64 b0_70) [(.int (0 : Int32)), (.ref b0_64)])) t
      refine XS.iload X75.here hx rfl (hb hby at_82) rfl ?_
      show Steps p.tables e below (T75.setTop (mkF m 84 (la0_69 p0 p1 p2 p3 p4 b0_64 b0_70) [(.int (v0_11 p0 p1 p2 p3 p4)), (.int (0 : Int32)), (.ref b0_64)])) t
      exact k
    obtain ⟨kc77, cl77, Ar77, q77, S77, M77, H77, G77⟩ := id fc76
    have hin77 : ¬ ((0 : Int32) < 0 ∨ cl77.slots.size ≤ ((0 : Int32)).toNatClampNeg) := inb_of S77 ⟨by decide, by decide⟩
    obtain ⟨T77, h77, X77, e77, W77, st77⟩ := stI X75 hx hZ e75 Ar77 (j := (0 : Int32)) hin77 (g := (mkF m 84 (la0_69 p0 p1 p2 p3 p4 b0_64 b0_70) [(.int (v0_11 p0 p1 p2 p3 p4)), (.int (0 : Int32)), (.ref b0_64)])) rfl rfl (hb hby at_84)
    have N77 := Fr.snoc X77 N0 gle_b0_64
    have Z77 : n0 ≤ h77.size := Nat.le_trans Z75 (Keep.of_wr W77).1
    have V77 : OArr Z h77 b0_64 .int (3 : Int32) [(.int (v0_11 p0 p1 p2 p3 p4)), (.int (0 : Int32)), (.int (0 : Int32))] (.int (0 : Int32)) := ⟨_, Arv.set Ar77 q77 S77 M77 H77 G77 rfl W77 0 rfl (Nat.le_of_ble_eq_true rfl)⟩
    have fc78 : OArr Z h77 b0_70 .int (3 : Int32) [(.int (0 : Int32)), (.int (0 : Int32)), (.int (0 : Int32))] (.int (0 : Int32)) := (V75.other W77 (Ne.symm ne_b0_64_b0_70))
    refine OEnd.go (g' := (mkF m 85 (la0_69 p0 p1 p2 p3 p4 b0_64 b0_70) [])) st77 ?_
    refine OEnd.go (T' := T77) (g' := (mkF m 90 (la0_69 p0 p1 p2 p3 p4 b0_64 b0_70) [(.int (v0_41 p0 p1 p2 p3 p4)), (.int (0 : Int32)), (.ref b0_70)])) (fun t k => ?_) ?_
    · show Steps p.tables e below (T77.setTop (mkF m 85 (la0_69 p0 p1 p2 p3 p4 b0_64 b0_70) [])) t
      refine XS.aload X77.here hx rfl (hb hby at_85) rfl rfl ?_
      show Steps p.tables e below (T77.setTop (mkF m 87 (la0_69 p0 p1 p2 p3 p4 b0_64 b0_70) [(.ref b0_70)])) t
      refine XS.iconst X77.here hx rfl (hb hby at_87) ?_
      show Steps p.tables e below (T77.setTop (mkF m 88 (la0_69 p0 p1 p2 p3 p4 b0_64 b0_70) [(.int (0 : Int32)), (.ref b0_70)])) t
      refine XS.iload X77.here hx rfl (hb hby at_88) rfl ?_
      show Steps p.tables e below (T77.setTop (mkF m 90 (la0_69 p0 p1 p2 p3 p4 b0_64 b0_70) [(.int (v0_41 p0 p1 p2 p3 p4)), (.int (0 : Int32)), (.ref b0_70)])) t
      exact k
    obtain ⟨kc79, cl79, Ar79, q79, S79, M79, H79, G79⟩ := id fc78
    have hin79 : ¬ ((0 : Int32) < 0 ∨ cl79.slots.size ≤ ((0 : Int32)).toNatClampNeg) := inb_of S79 ⟨by decide, by decide⟩
    obtain ⟨T79, h79, X79, e79, W79, st79⟩ := stI X77 hx hZ e77 Ar79 (j := (0 : Int32)) hin79 (g := (mkF m 90 (la0_69 p0 p1 p2 p3 p4 b0_64 b0_70) [(.int (v0_41 p0 p1 p2 p3 p4)), (.int (0 : Int32)), (.ref b0_70)])) rfl rfl (hb hby at_90)
    have N79 := Fr.snoc X79 N77 gle_b0_70
    have Z79 : n0 ≤ h79.size := Nat.le_trans Z77 (Keep.of_wr W79).1
    have V79 : OArr Z h79 b0_70 .int (3 : Int32) [(.int (v0_41 p0 p1 p2 p3 p4)), (.int (0 : Int32)), (.int (0 : Int32))] (.int (0 : Int32)) := ⟨_, Arv.set Ar79 q79 S79 M79 H79 G79 rfl W79 0 rfl (Nat.le_of_ble_eq_true rfl)⟩
    have fc80 : OArr Z h79 b0_64 .int (3 : Int32) [(.int (v0_11 p0 p1 p2 p3 p4)), (.int (0 : Int32)), (.int (0 : Int32))] (.int (0 : Int32)) := (V77.other W79 ne_b0_64_b0_70)
    refine OEnd.go (g' := (mkF m 91 (la0_69 p0 p1 p2 p3 p4 b0_64 b0_70) [])) st79 ?_
    refine OEnd.go (T' := T79) (g' := (mkF m 102 (la0_69 p0 p1 p2 p3 p4 b0_64 b0_70) [(.int (v0_21 p0 p1 p2 p3 p4)), (.int (1 : Int32)), (.ref b0_64)])) (fun t k => ?_) ?_
    · show Steps p.tables e below (T79.setTop (mkF m 91 (la0_69 p0 p1 p2 p3 p4 b0_64 b0_70) [])) t
      refine XS.iload X79.here hx rfl (hb hby at_91) rfl ?_
      show Steps p.tables e below (T79.setTop (mkF m 93 (la0_69 p0 p1 p2 p3 p4 b0_64 b0_70) [(.int (3 : Int32))])) t
      refine XS.iconst X79.here hx rfl (hb hby at_93) ?_
      show Steps p.tables e below (T79.setTop (mkF m 94 (la0_69 p0 p1 p2 p3 p4 b0_64 b0_70) [(.int (1 : Int32)), (.int (3 : Int32))])) t
      refine XS.icmpNo X79.here hx rfl (hb hby at_94) rfl (tlt ((by decide))).2.2.2 ?_
      show Steps p.tables e below (T79.setTop (mkF m 97 (la0_69 p0 p1 p2 p3 p4 b0_64 b0_70) [])) t
      refine XS.aload X79.here hx rfl (hb hby at_97) rfl rfl ?_
      show Steps p.tables e below (T79.setTop (mkF m 99 (la0_69 p0 p1 p2 p3 p4 b0_64 b0_70) [(.ref b0_64)])) t
      refine XS.iconst X79.here hx rfl (hb hby at_99) ?_
      show Steps p.tables e below (T79.setTop (mkF m 100 (la0_69 p0 p1 p2 p3 p4 b0_64 b0_70) [(.int (1 : Int32)), (.ref b0_64)])) t
      refine XS.iload X79.here hx rfl (hb hby at_100) rfl ?_
      show Steps p.tables e below (T79.setTop (mkF m 102 (la0_69 p0 p1 p2 p3 p4 b0_64 b0_70) [(.int (v0_21 p0 p1 p2 p3 p4)), (.int (1 : Int32)), (.ref b0_64)])) t
      exact k
    obtain ⟨kc81, cl81, Ar81, q81, S81, M81, H81, G81⟩ := id fc80
    have hin81 : ¬ ((1 : Int32) < 0 ∨ cl81.slots.size ≤ ((1 : Int32)).toNatClampNeg) := inb_of S81 ⟨by decide, by decide⟩
    obtain ⟨T81, h81, X81, e81, W81, st81⟩ := stI X79 hx hZ e79 Ar81 (j := (1 : Int32)) hin81 (g := (mkF m 102 (la0_69 p0 p1 p2 p3 p4 b0_64 b0_70) [(.int (v0_21 p0 p1 p2 p3 p4)), (.int (1 : Int32)), (.ref b0_64)])) rfl rfl (hb hby at_102)
    have N81 := Fr.snoc X81 N79 gle_b0_64
    have Z81 : n0 ≤ h81.size := Nat.le_trans Z79 (Keep.of_wr W81).1
    have V81 : OArr Z h81 b0_64 .int (3 : Int32) [(.int (v0_11 p0 p1 p2 p3 p4)), (.int (v0_21 p0 p1 p2 p3 p4)), (.int (0 : Int32))] (.int (0 : Int32)) := ⟨_, Arv.set Ar81 q81 S81 M81 H81 G81 rfl W81 1 rfl (Nat.le_of_ble_eq_true rfl)⟩
    have fc82 : OArr Z h81 b0_70 .int (3 : Int32) [(.int (v0_41 p0 p1 p2 p3 p4)), (.int (0 : Int32)), (.int (0 : Int32))] (.int (0 : Int32)) := (V79.other W81 (Ne.symm ne_b0_64_b0_70))
    refine OEnd.go (g' := (mkF m 103 (la0_69 p0 p1 p2 p3 p4 b0_64 b0_70) [])) st81 ?_
    refine OEnd.go (T' := T81) (g' := (mkF m 108 (la0_69 p0 p1 p2 p3 p4 b0_64 b0_70) [(.int (v0_50 p0 p1 p2 p3 p4)), (.int (1 : Int32)), (.ref b0_70)])) (fun t k => ?_) ?_
    · show Steps p.tables e below (T81.setTop (mkF m 103 (la0_69 p0 p1 p2 p3 p4 b0_64 b0_70) [])) t
      refine XS.aload X81.here hx rfl (hb hby at_103) rfl rfl ?_
      show Steps p.tables e below (T81.setTop (mkF m 105 (la0_69 p0 p1 p2 p3 p4 b0_64 b0_70) [(.ref b0_70)])) t
      refine XS.iconst X81.here hx rfl (hb hby at_105) ?_
      show Steps p.tables e below (T81.setTop (mkF m 106 (la0_69 p0 p1 p2 p3 p4 b0_64 b0_70) [(.int (1 : Int32)), (.ref b0_70)])) t
      refine XS.iload X81.here hx rfl (hb hby at_106) rfl ?_
      show Steps p.tables e below (T81.setTop (mkF m 108 (la0_69 p0 p1 p2 p3 p4 b0_64 b0_70) [(.int (v0_50 p0 p1 p2 p3 p4)), (.int (1 : Int32)), (.ref b0_70)])) t
      exact k
    obtain ⟨kc83, cl83, Ar83, q83, S83, M83, H83, G83⟩ := id fc82
    have hin83 : ¬ ((1 : Int32) < 0 ∨ cl83.slots.size ≤ ((1 : Int32)).toNatClampNeg) := inb_of S83 ⟨by decide, by decide⟩
    obtain ⟨T83, h83, X83, e83, W83, st83⟩ := stI X81 hx hZ e81 Ar83 (j := (1 : Int32)) hin83 (g := (mkF m 108 (la0_69 p0 p1 p2 p3 p4 b0_64 b0_70) [(.int (v0_50 p0 p1 p2 p3 p4)), (.int (1 : Int32)), (.ref b0_70)])) rfl rfl (hb hby at_108)
    have N83 := Fr.snoc X83 N81 gle_b0_70
    have Z83 : n0 ≤ h83.size := Nat.le_trans Z81 (Keep.of_wr W83).1
    have V83 : OArr Z h83 b0_70 .int (3 : Int32) [(.int (v0_41 p0 p1 p2 p3 p4)), (.int (v0_50 p0 p1 p2 p3 p4)), (.int (0 : Int32))] (.int (0 : Int32)) := ⟨_, Arv.set Ar83 q83 S83 M83 H83 G83 rfl W83 1 rfl (Nat.le_of_ble_eq_true rfl)⟩
    have fc84 : OArr Z h83 b0_64 .int (3 : Int32) [(.int (v0_11 p0 p1 p2 p3 p4)), (.int (v0_21 p0 p1 p2 p3 p4)), (.int (0 : Int32))] (.int (0 : Int32)) := (V81.other W83 ne_b0_64_b0_70)
    refine OEnd.go (g' := (mkF m 109 (la0_69 p0 p1 p2 p3 p4 b0_64 b0_70) [])) st83 ?_
    refine OEnd.go (T' := T83) (g' := (mkF m 120 (la0_69 p0 p1 p2 p3 p4 b0_64 b0_70) [(.int (v0_32 p0 p1 p2 p3 p4)), (.int (2 : Int32)), (.ref b0_64)])) (fun t k => ?_) ?_
    · show Steps p.tables e below (T83.setTop (mkF m 109 (la0_69 p0 p1 p2 p3 p4 b0_64 b0_70) [])) t
      refine XS.iload X83.here hx rfl (hb hby at_109) rfl ?_
      show Steps p.tables e below (T83.setTop (mkF m 111 (la0_69 p0 p1 p2 p3 p4 b0_64 b0_70) [(.int (3 : Int32))])) t
      refine XS.iconst X83.here hx rfl (hb hby at_111) ?_
      show Steps p.tables e below (T83.setTop (mkF m 112 (la0_69 p0 p1 p2 p3 p4 b0_64 b0_70) [(.int (2 : Int32)), (.int (3 : Int32))])) t
      refine XS.icmpNo X83.here hx rfl (hb hby at_112) rfl (tlt ((by decide))).2.2.2 ?_
      show Steps p.tables e below (T83.setTop (mkF m 115 (la0_69 p0 p1 p2 p3 p4 b0_64 b0_70) [])) t
      refine XS.aload X83.here hx rfl (hb hby at_115) rfl rfl ?_
      show Steps p.tables e below (T83.setTop (mkF m 117 (la0_69 p0 p1 p2 p3 p4 b0_64 b0_70) [(.ref b0_64)])) t
      refine XS.iconst X83.here hx rfl (hb hby at_117) ?_
      show Steps p.tables e below (T83.setTop (mkF m 118 (la0_69 p0 p1 p2 p3 p4 b0_64 b0_70) [(.int (2 : Int32)), (.ref b0_64)])) t
      refine XS.iload X83.here hx rfl (hb hby at_118) rfl ?_
      show Steps p.tables e below (T83.setTop (mkF m 120 (la0_69 p0 p1 p2 p3 p4 b0_64 b0_70) [(.int (v0_32 p0 p1 p2 p3 p4)), (.int (2 : Int32)), (.ref b0_64)])) t
      exact k
    obtain ⟨kc85, cl85, Ar85, q85, S85, M85, H85, G85⟩ := id fc84
    have hin85 : ¬ ((2 : Int32) < 0 ∨ cl85.slots.size ≤ ((2 : Int32)).toNatClampNeg) := inb_of S85 ⟨by decide, by decide⟩
    obtain ⟨T85, h85, X85, e85, W85, st85⟩ := stI X83 hx hZ e83 Ar85 (j := (2 : Int32)) hin85 (g := (mkF m 120 (la0_69 p0 p1 p2 p3 p4 b0_64 b0_70) [(.int (v0_32 p0 p1 p2 p3 p4)), (.int (2 : Int32)), (.ref b0_64)])) rfl rfl (hb hby at_120)
    have N85 := Fr.snoc X85 N83 gle_b0_64
    have Z85 : n0 ≤ h85.size := Nat.le_trans Z83 (Keep.of_wr W85).1
    have V85 : OArr Z h85 b0_64 .int (3 : Int32) [(.int (v0_11 p0 p1 p2 p3 p4)), (.int (v0_21 p0 p1 p2 p3 p4)), (.int (v0_32 p0 p1 p2 p3 p4))] (.int (0 : Int32)) := ⟨_, Arv.set Ar85 q85 S85 M85 H85 G85 rfl W85 2 rfl (Nat.le_of_ble_eq_true rfl)⟩
    have fc86 : OArr Z h85 b0_70 .int (3 : Int32) [(.int (v0_41 p0 p1 p2 p3 p4)), (.int (v0_50 p0 p1 p2 p3 p4)), (.int (0 : Int32))] (.int (0 : Int32)) := (V83.other W85 (Ne.symm ne_b0_64_b0_70))
    refine OEnd.go (g' := (mkF m 121 (la0_69 p0 p1 p2 p3 p4 b0_64 b0_70) [])) st85 ?_
    refine OEnd.go (T' := T85) (g' := (mkF m 126 (la0_69 p0 p1 p2 p3 p4 b0_64 b0_70) [(.int (v0_60 p0 p1 p2 p3 p4)), (.int (2 : Int32)), (.ref b0_70)])) (fun t k => ?_) ?_
    · show Steps p.tables e below (T85.setTop (mkF m 121 (la0_69 p0 p1 p2 p3 p4 b0_64 b0_70) [])) t
      refine XS.aload X85.here hx rfl (hb hby at_121) rfl rfl ?_
      show Steps p.tables e below (T85.setTop (mkF m 123 (la0_69 p0 p1 p2 p3 p4 b0_64 b0_70) [(.ref b0_70)])) t
      refine XS.iconst X85.here hx rfl (hb hby at_123) ?_
      show Steps p.tables e below (T85.setTop (mkF m 124 (la0_69 p0 p1 p2 p3 p4 b0_64 b0_70) [(.int (2 : Int32)), (.ref b0_70)])) t
      refine XS.iload X85.here hx rfl (hb hby at_124) rfl ?_
      show Steps p.tables e below (T85.setTop (mkF m 126 (la0_69 p0 p1 p2 p3 p4 b0_64 b0_70) [(.int (v0_60 p0 p1 p2 p3 p4)), (.int (2 : Int32)), (.ref b0_70)])) t
      exact k
    obtain ⟨kc87, cl87, Ar87, q87, S87, M87, H87, G87⟩ := id fc86
    have hin87 : ¬ ((2 : Int32) < 0 ∨ cl87.slots.size ≤ ((2 : Int32)).toNatClampNeg) := inb_of S87 ⟨by decide, by decide⟩
    obtain ⟨T87, h87, X87, e87, W87, st87⟩ := stI X85 hx hZ e85 Ar87 (j := (2 : Int32)) hin87 (g := (mkF m 126 (la0_69 p0 p1 p2 p3 p4 b0_64 b0_70) [(.int (v0_60 p0 p1 p2 p3 p4)), (.int (2 : Int32)), (.ref b0_70)])) rfl rfl (hb hby at_126)
    have N87 := Fr.snoc X87 N85 gle_b0_70
    have Z87 : n0 ≤ h87.size := Nat.le_trans Z85 (Keep.of_wr W87).1
    have V87 : OArr Z h87 b0_70 .int (3 : Int32) [(.int (v0_41 p0 p1 p2 p3 p4)), (.int (v0_50 p0 p1 p2 p3 p4)), (.int (v0_60 p0 p1 p2 p3 p4))] (.int (0 : Int32)) := ⟨_, Arv.set Ar87 q87 S87 M87 H87 G87 rfl W87 2 rfl (Nat.le_of_ble_eq_true rfl)⟩
    have fc88 : OArr Z h87 b0_64 .int (3 : Int32) [(.int (v0_11 p0 p1 p2 p3 p4)), (.int (v0_21 p0 p1 p2 p3 p4)), (.int (v0_32 p0 p1 p2 p3 p4))] (.int (0 : Int32)) := (V85.other W87 ne_b0_64_b0_70)
    refine OEnd.go (g' := (mkF m 127 (la0_69 p0 p1 p2 p3 p4 b0_64 b0_70) [])) st87 ?_
    refine OEnd.go (T' := T87) (g' := (mkF m 239 (la0_77 p0 p1 p2 p3 p4 b0_64 b0_70) [(.ref b0_64), (.ref b0_70)])) (fun t k => ?_) ?_
    · show Steps p.tables e below (T87.setTop (mkF m 127 (la0_69 p0 p1 p2 p3 p4 b0_64 b0_70) [])) t
      refine XS.iload X87.here hx rfl (hb hby at_127) rfl ?_
      show Steps p.tables e below (T87.setTop (mkF m 129 (la0_69 p0 p1 p2 p3 p4 b0_64 b0_70) [(.int (3 : Int32))])) t
      refine XS.ifNo X87.here hx rfl (hb hby at_129) rfl ((if0 _ _).trans (tlt ((by decide))).2.2.2) ?_
      show Steps p.tables e below (T87.setTop (mkF m 132 (la0_69 p0 p1 p2 p3 p4 b0_64 b0_70) [])) t
      refine XS.iload X87.here hx rfl (hb hby at_132) rfl ?_
      show Steps p.tables e below (T87.setTop (mkF m 134 (la0_69 p0 p1 p2 p3 p4 b0_64 b0_70) [(.int (v0_11 p0 p1 p2 p3 p4))])) t
      refine XS.goto X87.here hx rfl (pc0 := 134) (pc' := 138) rfl (hb hby at_134) (by decide) (by decide) ?_
      show Steps p.tables e below (T87.setTop (mkF m 138 (la0_69 p0 p1 p2 p3 p4 b0_64 b0_70) [(.int (v0_11 p0 p1 p2 p3 p4))])) t
      refine XS.istore X87.here hx rfl (hb hby at_138) rfl (l' := (la0_70 p0 p1 p2 p3 p4 b0_64 b0_70)) rfl ?_
      show Steps p.tables e below (T87.setTop (mkF m 140 (la0_70 p0 p1 p2 p3 p4 b0_64 b0_70) [])) t
      refine XS.iload X87.here hx rfl (hb hby at_140) rfl ?_
      show Steps p.tables e below (T87.setTop (mkF m 142 (la0_70 p0 p1 p2 p3 p4 b0_64 b0_70) [(.int (3 : Int32))])) t
      refine XS.iconst X87.here hx rfl (hb hby at_142) ?_
      show Steps p.tables e below (T87.setTop (mkF m 143 (la0_70 p0 p1 p2 p3 p4 b0_64 b0_70) [(.int (1 : Int32)), (.int (3 : Int32))])) t
      refine XS.icmpNo X87.here hx rfl (hb hby at_143) rfl (tlt ((by decide))).2.2.2 ?_
      show Steps p.tables e below (T87.setTop (mkF m 146 (la0_70 p0 p1 p2 p3 p4 b0_64 b0_70) [])) t
      refine XS.iload X87.here hx rfl (hb hby at_146) rfl ?_
      show Steps p.tables e below (T87.setTop (mkF m 148 (la0_70 p0 p1 p2 p3 p4 b0_64 b0_70) [(.int (v0_21 p0 p1 p2 p3 p4))])) t
      refine XS.goto X87.here hx rfl (pc0 := 148) (pc' := 152) rfl (hb hby at_148) (by decide) (by decide) ?_
      show Steps p.tables e below (T87.setTop (mkF m 152 (la0_70 p0 p1 p2 p3 p4 b0_64 b0_70) [(.int (v0_21 p0 p1 p2 p3 p4))])) t
      refine XS.istore X87.here hx rfl (hb hby at_152) rfl (l' := (la0_71 p0 p1 p2 p3 p4 b0_64 b0_70)) rfl ?_
      show Steps p.tables e below (T87.setTop (mkF m 154 (la0_71 p0 p1 p2 p3 p4 b0_64 b0_70) [])) t
      refine XS.iload X87.here hx rfl (hb hby at_154) rfl ?_
      show Steps p.tables e below (T87.setTop (mkF m 156 (la0_71 p0 p1 p2 p3 p4 b0_64 b0_70) [(.int (3 : Int32))])) t
      refine XS.iconst X87.here hx rfl (hb hby at_156) ?_
      show Steps p.tables e below (T87.setTop (mkF m 157 (la0_71 p0 p1 p2 p3 p4 b0_64 b0_70) [(.int (2 : Int32)), (.int (3 : Int32))])) t
      refine XS.icmpNo X87.here hx rfl (hb hby at_157) rfl (tlt ((by decide))).2.2.2 ?_
      show Steps p.tables e below (T87.setTop (mkF m 160 (la0_71 p0 p1 p2 p3 p4 b0_64 b0_70) [])) t
      refine XS.iload X87.here hx rfl (hb hby at_160) rfl ?_
      show Steps p.tables e below (T87.setTop (mkF m 162 (la0_71 p0 p1 p2 p3 p4 b0_64 b0_70) [(.int (v0_32 p0 p1 p2 p3 p4))])) t
      refine XS.goto X87.here hx rfl (pc0 := 162) (pc' := 166) rfl (hb hby at_162) (by decide) (by decide) ?_
      show Steps p.tables e below (T87.setTop (mkF m 166 (la0_71 p0 p1 p2 p3 p4 b0_64 b0_70) [(.int (v0_32 p0 p1 p2 p3 p4))])) t
      refine XS.istore X87.here hx rfl (hb hby at_166) rfl (l' := (la0_72 p0 p1 p2 p3 p4 b0_64 b0_70)) rfl ?_
      show Steps p.tables e below (T87.setTop (mkF m 168 (la0_72 p0 p1 p2 p3 p4 b0_64 b0_70) [])) t
      refine XS.iload X87.here hx rfl (hb hby at_168) rfl ?_
      show Steps p.tables e below (T87.setTop (mkF m 170 (la0_72 p0 p1 p2 p3 p4 b0_64 b0_70) [(.int (3 : Int32))])) t
      refine XS.ifNo X87.here hx rfl (hb hby at_170) rfl ((if0 _ _).trans (tlt ((by decide))).2.2.2) ?_
      show Steps p.tables e below (T87.setTop (mkF m 173 (la0_72 p0 p1 p2 p3 p4 b0_64 b0_70) [])) t
      refine XS.iload X87.here hx rfl (hb hby at_173) rfl ?_
      show Steps p.tables e below (T87.setTop (mkF m 175 (la0_72 p0 p1 p2 p3 p4 b0_64 b0_70) [(.int (v0_41 p0 p1 p2 p3 p4))])) t
      refine XS.goto X87.here hx rfl (pc0 := 175) (pc' := 179) rfl (hb hby at_175) (by decide) (by decide) ?_
      show Steps p.tables e below (T87.setTop (mkF m 179 (la0_72 p0 p1 p2 p3 p4 b0_64 b0_70) [(.int (v0_41 p0 p1 p2 p3 p4))])) t
      refine XS.istore X87.here hx rfl (hb hby at_179) rfl (l' := (la0_73 p0 p1 p2 p3 p4 b0_64 b0_70)) rfl ?_
      show Steps p.tables e below (T87.setTop (mkF m 181 (la0_73 p0 p1 p2 p3 p4 b0_64 b0_70) [])) t
      refine XS.iload X87.here hx rfl (hb hby at_181) rfl ?_
      show Steps p.tables e below (T87.setTop (mkF m 183 (la0_73 p0 p1 p2 p3 p4 b0_64 b0_70) [(.int (3 : Int32))])) t
      refine XS.iconst X87.here hx rfl (hb hby at_183) ?_
      show Steps p.tables e below (T87.setTop (mkF m 184 (la0_73 p0 p1 p2 p3 p4 b0_64 b0_70) [(.int (1 : Int32)), (.int (3 : Int32))])) t
      refine XS.icmpNo X87.here hx rfl (hb hby at_184) rfl (tlt ((by decide))).2.2.2 ?_
      show Steps p.tables e below (T87.setTop (mkF m 187 (la0_73 p0 p1 p2 p3 p4 b0_64 b0_70) [])) t
      refine XS.iload X87.here hx rfl (hb hby at_187) rfl ?_
      show Steps p.tables e below (T87.setTop (mkF m 189 (la0_73 p0 p1 p2 p3 p4 b0_64 b0_70) [(.int (v0_50 p0 p1 p2 p3 p4))])) t
      refine XS.goto X87.here hx rfl (pc0 := 189) (pc' := 193) rfl (hb hby at_189) (by decide) (by decide) ?_
      show Steps p.tables e below (T87.setTop (mkF m 193 (la0_73 p0 p1 p2 p3 p4 b0_64 b0_70) [(.int (v0_50 p0 p1 p2 p3 p4))])) t
      refine XS.istore X87.here hx rfl (hb hby at_193) rfl (l' := (la0_74 p0 p1 p2 p3 p4 b0_64 b0_70)) rfl ?_
      show Steps p.tables e below (T87.setTop (mkF m 195 (la0_74 p0 p1 p2 p3 p4 b0_64 b0_70) [])) t
      refine XS.iload X87.here hx rfl (hb hby at_195) rfl ?_
      show Steps p.tables e below (T87.setTop (mkF m 197 (la0_74 p0 p1 p2 p3 p4 b0_64 b0_70) [(.int (3 : Int32))])) t
      refine XS.iconst X87.here hx rfl (hb hby at_197) ?_
      show Steps p.tables e below (T87.setTop (mkF m 198 (la0_74 p0 p1 p2 p3 p4 b0_64 b0_70) [(.int (2 : Int32)), (.int (3 : Int32))])) t
      refine XS.icmpNo X87.here hx rfl (hb hby at_198) rfl (tlt ((by decide))).2.2.2 ?_
      show Steps p.tables e below (T87.setTop (mkF m 201 (la0_74 p0 p1 p2 p3 p4 b0_64 b0_70) [])) t
      refine XS.iload X87.here hx rfl (hb hby at_201) rfl ?_
      show Steps p.tables e below (T87.setTop (mkF m 203 (la0_74 p0 p1 p2 p3 p4 b0_64 b0_70) [(.int (v0_60 p0 p1 p2 p3 p4))])) t
      refine XS.goto X87.here hx rfl (pc0 := 203) (pc' := 207) rfl (hb hby at_203) (by decide) (by decide) ?_
      show Steps p.tables e below (T87.setTop (mkF m 207 (la0_74 p0 p1 p2 p3 p4 b0_64 b0_70) [(.int (v0_60 p0 p1 p2 p3 p4))])) t
      refine XS.istore X87.here hx rfl (hb hby at_207) rfl (l' := (la0_75 p0 p1 p2 p3 p4 b0_64 b0_70)) rfl ?_
      show Steps p.tables e below (T87.setTop (mkF m 209 (la0_75 p0 p1 p2 p3 p4 b0_64 b0_70) [])) t
      refine XS.iload X87.here hx rfl (hb hby at_209) rfl ?_
      show Steps p.tables e below (T87.setTop (mkF m 211 (la0_75 p0 p1 p2 p3 p4 b0_64 b0_70) [(.int (v0_11 p0 p1 p2 p3 p4))])) t
      refine XS.iload X87.here hx rfl (hb hby at_211) rfl ?_
      show Steps p.tables e below (T87.setTop (mkF m 213 (la0_75 p0 p1 p2 p3 p4 b0_64 b0_70) [(.int (v0_21 p0 p1 p2 p3 p4)), (.int (v0_11 p0 p1 p2 p3 p4))])) t
      refine XS.imul X87.here hx rfl (hb hby at_213) rfl ?_
      show Steps p.tables e below (T87.setTop (mkF m 214 (la0_75 p0 p1 p2 p3 p4 b0_64 b0_70) [(.int ((v0_11 p0 p1 p2 p3 p4) * (v0_21 p0 p1 p2 p3 p4)))])) t
      refine XS.iload X87.here hx rfl (hb hby at_214) rfl ?_
      show Steps p.tables e below (T87.setTop (mkF m 216 (la0_75 p0 p1 p2 p3 p4 b0_64 b0_70) [(.int (v0_32 p0 p1 p2 p3 p4)), (.int ((v0_11 p0 p1 p2 p3 p4) * (v0_21 p0 p1 p2 p3 p4)))])) t
      refine XS.imul X87.here hx rfl (hb hby at_216) rfl ?_
      show Steps p.tables e below (T87.setTop (mkF m 217 (la0_75 p0 p1 p2 p3 p4 b0_64 b0_70) [(.int (((v0_11 p0 p1 p2 p3 p4) * (v0_21 p0 p1 p2 p3 p4)) * (v0_32 p0 p1 p2 p3 p4)))])) t
      refine XS.istore X87.here hx rfl (hb hby at_217) rfl (l' := (la0_76 p0 p1 p2 p3 p4 b0_64 b0_70)) rfl ?_
      show Steps p.tables e below (T87.setTop (mkF m 219 (la0_76 p0 p1 p2 p3 p4 b0_64 b0_70) [])) t
      refine XS.iload X87.here hx rfl (hb hby at_219) rfl ?_
      show Steps p.tables e below (T87.setTop (mkF m 221 (la0_76 p0 p1 p2 p3 p4 b0_64 b0_70) [(.int (v0_41 p0 p1 p2 p3 p4))])) t
      refine XS.iload X87.here hx rfl (hb hby at_221) rfl ?_
      show Steps p.tables e below (T87.setTop (mkF m 223 (la0_76 p0 p1 p2 p3 p4 b0_64 b0_70) [(.int (v0_11 p0 p1 p2 p3 p4)), (.int (v0_41 p0 p1 p2 p3 p4))])) t
      refine XS.iload X87.here hx rfl (hb hby at_223) rfl ?_
      show Steps p.tables e below (T87.setTop (mkF m 225 (la0_76 p0 p1 p2 p3 p4 b0_64 b0_70) [(.int (v0_50 p0 p1 p2 p3 p4)), (.int (v0_11 p0 p1 p2 p3 p4)), (.int (v0_41 p0 p1 p2 p3 p4))])) t
      refine XS.iload X87.here hx rfl (hb hby at_225) rfl ?_
      show Steps p.tables e below (T87.setTop (mkF m 227 (la0_76 p0 p1 p2 p3 p4 b0_64 b0_70) [(.int (v0_21 p0 p1 p2 p3 p4)), (.int (v0_50 p0 p1 p2 p3 p4)), (.int (v0_11 p0 p1 p2 p3 p4)), (.int (v0_41 p0 p1 p2 p3 p4))])) t
      refine XS.iload X87.here hx rfl (hb hby at_227) rfl ?_
      show Steps p.tables e below (T87.setTop (mkF m 229 (la0_76 p0 p1 p2 p3 p4 b0_64 b0_70) [(.int (v0_60 p0 p1 p2 p3 p4)), (.int (v0_21 p0 p1 p2 p3 p4)), (.int (v0_50 p0 p1 p2 p3 p4)), (.int (v0_11 p0 p1 p2 p3 p4)), (.int (v0_41 p0 p1 p2 p3 p4))])) t
      refine XS.imul X87.here hx rfl (hb hby at_229) rfl ?_
      show Steps p.tables e below (T87.setTop (mkF m 230 (la0_76 p0 p1 p2 p3 p4 b0_64 b0_70) [(.int ((v0_21 p0 p1 p2 p3 p4) * (v0_60 p0 p1 p2 p3 p4))), (.int (v0_50 p0 p1 p2 p3 p4)), (.int (v0_11 p0 p1 p2 p3 p4)), (.int (v0_41 p0 p1 p2 p3 p4))])) t
      refine XS.iadd X87.here hx rfl (hb hby at_230) rfl ?_
      show Steps p.tables e below (T87.setTop (mkF m 231 (la0_76 p0 p1 p2 p3 p4 b0_64 b0_70) [(.int ((v0_50 p0 p1 p2 p3 p4) + ((v0_21 p0 p1 p2 p3 p4) * (v0_60 p0 p1 p2 p3 p4)))), (.int (v0_11 p0 p1 p2 p3 p4)), (.int (v0_41 p0 p1 p2 p3 p4))])) t
      refine XS.imul X87.here hx rfl (hb hby at_231) rfl ?_
      show Steps p.tables e below (T87.setTop (mkF m 232 (la0_76 p0 p1 p2 p3 p4 b0_64 b0_70) [(.int ((v0_11 p0 p1 p2 p3 p4) * ((v0_50 p0 p1 p2 p3 p4) + ((v0_21 p0 p1 p2 p3 p4) * (v0_60 p0 p1 p2 p3 p4))))), (.int (v0_41 p0 p1 p2 p3 p4))])) t
      refine XS.iadd X87.here hx rfl (hb hby at_232) rfl ?_
      show Steps p.tables e below (T87.setTop (mkF m 233 (la0_76 p0 p1 p2 p3 p4 b0_64 b0_70) [(.int ((v0_41 p0 p1 p2 p3 p4) + ((v0_11 p0 p1 p2 p3 p4) * ((v0_50 p0 p1 p2 p3 p4) + ((v0_21 p0 p1 p2 p3 p4) * (v0_60 p0 p1 p2 p3 p4))))))])) t
      refine XS.istore X87.here hx rfl (hb hby at_233) rfl (l' := (la0_77 p0 p1 p2 p3 p4 b0_64 b0_70)) rfl ?_
      show Steps p.tables e below (T87.setTop (mkF m 235 (la0_77 p0 p1 p2 p3 p4 b0_64 b0_70) [])) t
      refine XS.aload X87.here hx rfl (hb hby at_235) rfl rfl ?_
      show Steps p.tables e below (T87.setTop (mkF m 237 (la0_77 p0 p1 p2 p3 p4 b0_64 b0_70) [(.ref b0_70)])) t
      refine XS.aload X87.here hx rfl (hb hby at_237) rfl rfl ?_
      show Steps p.tables e below (T87.setTop (mkF m 239 (la0_77 p0 p1 p2 p3 p4 b0_64 b0_70) [(.ref b0_64), (.ref b0_70)])) t
      exact k
    obtain ⟨_, _, ⟨T89, L89, k89, n89⟩, -, X89, ⟨Lc89, hQ89, l89, y89, z89⟩, st89⟩ := Jvm.LawKit.callS X87 hx (y := (⟨"com/example/assentor/assentor/check/Odometer", "advance", "([I[I)Z"⟩ : MethodName)) hown (mvT hZ (hw _ (List.mem_of_getElem? (i := 2) rfl))) (mvT hZ (hw _ (List.mem_of_getElem? (i := 3) rfl))) (mvT hZ (hw _ (List.mem_of_getElem? (i := 4) rfl))) (mvT hZ (hw _ (List.mem_of_getElem? (i := 5) rfl))) (by decide) (backOf (W := 0) (rm1_3 l Z aZ hw [] b0_70 b0_64 (v0_41 p0 p1 p2 p3 p4) (v0_50 p0 p1 p2 p3 p4) (v0_60 p0 p1 p2 p3 p4) (v0_11 p0 p1 p2 p3 p4) (v0_21 p0 p1 p2 p3 p4) (v0_32 p0 p1 p2 p3 p4) h87 n0 Z87 V87 fc88 (Ne.symm ne_b0_64_b0_70) gle_b0_70) hZ (hw _ (List.mem_of_getElem? (i := 5) rfl)) (hw _ (List.mem_of_getElem? (i := 4) rfl)) (by decide) (by decide)) (g := (mkF m 239 (la0_77 p0 p1 p2 p3 p4 b0_64 b0_70) [(.ref b0_64), (.ref b0_70)])) rfl (by rw [hml]; rfl) (argsL := [(.ref b0_70), (.ref b0_64)]) (rest := []) (lenOf pd___I_I_Z rfl) rfl (by show 2 * 0 + _ ≤ _; exact Nat.le_of_eq rfl) (hb hby at_239) (fun _ _ => ⟨rfl, e87, (by decide : 2 + 0 ≤ _), (by decide : 6 + 0 ≤ _)⟩)
    dsimp only [Pt.U, Pt.locs, Pt.cells, Pt.slots] at X89 l89 y89 z89 st89 hQ89
    subst l89 y89 z89
    obtain ⟨rfl, N89q, u89_0, u89_1⟩ := hQ89
    have N89 := Fr.app N87 N89q
    have Z89 : n0 ≤ T89.heap.size := Nat.le_trans Z87 u89_0.1
    have fc90 : OArr Z T89.heap b0_64 .int (3 : Int32) [(.int (v0_11 p0 p1 p2 p3 p4)), (.int (v0_21 p0 p1 p2 p3 p4)), (.int (v0_32 p0 p1 p2 p3 p4))] (.int (0 : Int32)) := (fc88.keep u89_0 (ninS ne_b0_64_b0_70 nin0))
    refine OEnd.go (g' := (mkF m 242 (la0_77 p0 p1 p2 p3 p4 b0_64 b0_70) [(.int (f1_3 (v0_41 p0 p1 p2 p3 p4) (v0_50 p0 p1 p2 p3 p4) (v0_60 p0 p1 p2 p3 p4) (v0_11 p0 p1 p2 p3 p4) (v0_21 p0 p1 p2 p3 p4) (v0_32 p0 p1 p2 p3 p4)))])) st89 ?_
    refine OEnd.go (T' := T89) (g' := (mkF m 252 (la0_78 p0 p1 p2 p3 p4 b0_64 b0_70) [(.int (0 : Int32)), (.ref b0_70)])) (fun t k => ?_) ?_
    · show Steps p.tables e below (T89.setTop (mkF m 242 (la0_77 p0 p1 p2 p3 p4 b0_64 b0_70) [(.int (f1_3 (v0_41 p0 p1 p2 p3 p4) (v0_50 p0 p1 p2 p3 p4) (v0_60 p0 p1 p2 p3 p4) (v0_11 p0 p1 p2 p3 p4) (v0_21 p0 p1 p2 p3 p4) (v0_32 p0 p1 p2 p3 p4)))])) t
      refine XS.istore X89.here hx rfl (hb hby at_242) rfl (l' := (la0_78 p0 p1 p2 p3 p4 b0_64 b0_70)) rfl ?_
      show Steps p.tables e below (T89.setTop (mkF m 244 (la0_78 p0 p1 p2 p3 p4 b0_64 b0_70) [])) t
      refine XS.iload X89.here hx rfl (hb hby at_244) rfl ?_
      show Steps p.tables e below (T89.setTop (mkF m 246 (la0_78 p0 p1 p2 p3 p4 b0_64 b0_70) [(.int (3 : Int32))])) t
      refine XS.ifNo X89.here hx rfl (hb hby at_246) rfl ((if0 _ _).trans (tlt ((by decide))).2.2.2) ?_
      show Steps p.tables e below (T89.setTop (mkF m 249 (la0_78 p0 p1 p2 p3 p4 b0_64 b0_70) [])) t
      refine XS.aload X89.here hx rfl (hb hby at_249) rfl rfl ?_
      show Steps p.tables e below (T89.setTop (mkF m 251 (la0_78 p0 p1 p2 p3 p4 b0_64 b0_70) [(.ref b0_70)])) t
      refine XS.iconst X89.here hx rfl (hb hby at_251) ?_
      show Steps p.tables e below (T89.setTop (mkF m 252 (la0_78 p0 p1 p2 p3 p4 b0_64 b0_70) [(.int (0 : Int32)), (.ref b0_70)])) t
      exact k
    obtain ⟨kc91, cl91, Ar91, q91, S91, M91, H91, G91⟩ := id u89_1
    have hin91 : ¬ ((0 : Int32) < 0 ∨ cl91.slots.size ≤ ((0 : Int32)).toNatClampNeg) := inb_of S91 ⟨by decide, by decide⟩
    have hat91 : cl91.slots[((0 : Int32)).toNatClampNeg]? = some (.int (if ((v0_41 p0 p1 p2 p3 p4) + (1 : Int32)) < (v0_11 p0 p1 p2 p3 p4) then ((v0_41 p0 p1 p2 p3 p4) + (1 : Int32)) else (0 : Int32))) := Has.at H91 hin91 rfl
    refine OEnd.go (T' := T89) (g' := (mkF m 253 (la0_78 p0 p1 p2 p3 p4 b0_64 b0_70) [(.int (if ((v0_41 p0 p1 p2 p3 p4) + (1 : Int32)) < (v0_11 p0 p1 p2 p3 p4) then ((v0_41 p0 p1 p2 p3 p4) + (1 : Int32)) else (0 : Int32)))])) (fun t k => ?_) ?_
    · refine X89.iaload hx (j := (0 : Int32)) (v := (.int (if ((v0_41 p0 p1 p2 p3 p4) + (1 : Int32)) < (v0_11 p0 p1 p2 p3 p4) then ((v0_41 p0 p1 p2 p3 p4) + (1 : Int32)) else (0 : Int32)))) Ar91.1 (State.isArrayOf_alike hZ.alike Ar91.2.1) Ar91.2.2 hin91 hat91 (g := (mkF m 252 (la0_78 p0 p1 p2 p3 p4 b0_64 b0_70) [(.int (0 : Int32)), (.ref b0_70)])) rfl rfl (hb hby at_252) _ ?_
      exact k
    refine OEnd.go (T' := T89) (g' := (mkF m 268 (la0_79 p0 p1 p2 p3 p4 b0_64 b0_70) [(.int (1 : Int32)), (.ref b0_70)])) (fun t k => ?_) ?_
    · show Steps p.tables e below (T89.setTop (mkF m 253 (la0_78 p0 p1 p2 p3 p4 b0_64 b0_70) [(.int (if ((v0_41 p0 p1 p2 p3 p4) + (1 : Int32)) < (v0_11 p0 p1 p2 p3 p4) then ((v0_41 p0 p1 p2 p3 p4) + (1 : Int32)) else (0 : Int32)))])) t
      refine XS.goto X89.here hx rfl (pc0 := 253) (pc' := 257) rfl (hb hby at_253) (by decide) (by decide) ?_
      show Steps p.tables e below (T89.setTop (mkF m 257 (la0_78 p0 p1 p2 p3 p4 b0_64 b0_70) [(.int (if ((v0_41 p0 p1 p2 p3 p4) + (1 : Int32)) < (v0_11 p0 p1 p2 p3 p4) then ((v0_41 p0 p1 p2 p3 p4) + (1 : Int32)) else (0 : Int32)))])) t
      refine XS.istore X89.here hx rfl (hb hby at_257) rfl (l' := (la0_79 p0 p1 p2 p3 p4 b0_64 b0_70)) rfl ?_
      show Steps p.tables e below (T89.setTop (mkF m 259 (la0_79 p0 p1 p2 p3 p4 b0_64 b0_70) [])) t
      refine XS.iload X89.here hx rfl (hb hby at_259) rfl ?_
      show Steps p.tables e below (T89.setTop (mkF m 261 (la0_79 p0 p1 p2 p3 p4 b0_64 b0_70) [(.int (3 : Int32))])) t
      refine XS.iconst X89.here hx rfl (hb hby at_261) ?_
      show Steps p.tables e below (T89.setTop (mkF m 262 (la0_79 p0 p1 p2 p3 p4 b0_64 b0_70) [(.int (1 : Int32)), (.int (3 : Int32))])) t
      refine XS.icmpNo X89.here hx rfl (hb hby at_262) rfl (tlt ((by decide))).2.2.2 ?_
      show Steps p.tables e below (T89.setTop (mkF m 265 (la0_79 p0 p1 p2 p3 p4 b0_64 b0_70) [])) t
      refine XS.aload X89.here hx rfl (hb hby at_265) rfl rfl ?_
      show Steps p.tables e below (T89.setTop (mkF m 267 (la0_79 p0 p1 p2 p3 p4 b0_64 b0_70) [(.ref b0_70)])) t
      refine XS.iconst X89.here hx rfl (hb hby at_267) ?_
      show Steps p.tables e below (T89.setTop (mkF m 268 (la0_79 p0 p1 p2 p3 p4 b0_64 b0_70) [(.int (1 : Int32)), (.ref b0_70)])) t
      exact k
    obtain ⟨kc92, cl92, Ar92, q92, S92, M92, H92, G92⟩ := id u89_1
    have hin92 : ¬ ((1 : Int32) < 0 ∨ cl92.slots.size ≤ ((1 : Int32)).toNatClampNeg) := inb_of S92 ⟨by decide, by decide⟩
    have hat92 : cl92.slots[((1 : Int32)).toNatClampNeg]? = some (.int (if ((v0_41 p0 p1 p2 p3 p4) + (1 : Int32)) < (v0_11 p0 p1 p2 p3 p4) then (v0_50 p0 p1 p2 p3 p4) else (if ((v0_50 p0 p1 p2 p3 p4) + (1 : Int32)) < (v0_21 p0 p1 p2 p3 p4) then ((v0_50 p0 p1 p2 p3 p4) + (1 : Int32)) else (0 : Int32)))) := Has.at H92 hin92 rfl
    refine OEnd.go (T' := T89) (g' := (mkF m 269 (la0_79 p0 p1 p2 p3 p4 b0_64 b0_70) [(.int (if ((v0_41 p0 p1 p2 p3 p4) + (1 : Int32)) < (v0_11 p0 p1 p2 p3 p4) then (v0_50 p0 p1 p2 p3 p4) else (if ((v0_50 p0 p1 p2 p3 p4) + (1 : Int32)) < (v0_21 p0 p1 p2 p3 p4) then ((v0_50 p0 p1 p2 p3 p4) + (1 : Int32)) else (0 : Int32))))])) (fun t k => ?_) ?_
    · refine X89.iaload hx (j := (1 : Int32)) (v := (.int (if ((v0_41 p0 p1 p2 p3 p4) + (1 : Int32)) < (v0_11 p0 p1 p2 p3 p4) then (v0_50 p0 p1 p2 p3 p4) else (if ((v0_50 p0 p1 p2 p3 p4) + (1 : Int32)) < (v0_21 p0 p1 p2 p3 p4) then ((v0_50 p0 p1 p2 p3 p4) + (1 : Int32)) else (0 : Int32))))) Ar92.1 (State.isArrayOf_alike hZ.alike Ar92.2.1) Ar92.2.2 hin92 hat92 (g := (mkF m 268 (la0_79 p0 p1 p2 p3 p4 b0_64 b0_70) [(.int (1 : Int32)), (.ref b0_70)])) rfl rfl (hb hby at_268) _ ?_
      exact k
    refine OEnd.go (T' := T89) (g' := (mkF m 284 (la0_80 p0 p1 p2 p3 p4 b0_64 b0_70) [(.int (2 : Int32)), (.ref b0_70)])) (fun t k => ?_) ?_
    · show Steps p.tables e below (T89.setTop (mkF m 269 (la0_79 p0 p1 p2 p3 p4 b0_64 b0_70) [(.int (if ((v0_41 p0 p1 p2 p3 p4) + (1 : Int32)) < (v0_11 p0 p1 p2 p3 p4) then (v0_50 p0 p1 p2 p3 p4) else (if ((v0_50 p0 p1 p2 p3 p4) + (1 : Int32)) < (v0_21 p0 p1 p2 p3 p4) then ((v0_50 p0 p1 p2 p3 p4) + (1 : Int32)) else (0 : Int32))))])) t
      refine XS.goto X89.here hx rfl (pc0 := 269) (pc' := 273) rfl (hb hby at_269) (by decide) (by decide) ?_
      show Steps p.tables e below (T89.setTop (mkF m 273 (la0_79 p0 p1 p2 p3 p4 b0_64 b0_70) [(.int (if ((v0_41 p0 p1 p2 p3 p4) + (1 : Int32)) < (v0_11 p0 p1 p2 p3 p4) then (v0_50 p0 p1 p2 p3 p4) else (if ((v0_50 p0 p1 p2 p3 p4) + (1 : Int32)) < (v0_21 p0 p1 p2 p3 p4) then ((v0_50 p0 p1 p2 p3 p4) + (1 : Int32)) else (0 : Int32))))])) t
      refine XS.istore X89.here hx rfl (hb hby at_273) rfl (l' := (la0_80 p0 p1 p2 p3 p4 b0_64 b0_70)) rfl ?_
      show Steps p.tables e below (T89.setTop (mkF m 275 (la0_80 p0 p1 p2 p3 p4 b0_64 b0_70) [])) t
      refine XS.iload X89.here hx rfl (hb hby at_275) rfl ?_
      show Steps p.tables e below (T89.setTop (mkF m 277 (la0_80 p0 p1 p2 p3 p4 b0_64 b0_70) [(.int (3 : Int32))])) t
      refine XS.iconst X89.here hx rfl (hb hby at_277) ?_
      show Steps p.tables e below (T89.setTop (mkF m 278 (la0_80 p0 p1 p2 p3 p4 b0_64 b0_70) [(.int (2 : Int32)), (.int (3 : Int32))])) t
      refine XS.icmpNo X89.here hx rfl (hb hby at_278) rfl (tlt ((by decide))).2.2.2 ?_
      show Steps p.tables e below (T89.setTop (mkF m 281 (la0_80 p0 p1 p2 p3 p4 b0_64 b0_70) [])) t
      refine XS.aload X89.here hx rfl (hb hby at_281) rfl rfl ?_
      show Steps p.tables e below (T89.setTop (mkF m 283 (la0_80 p0 p1 p2 p3 p4 b0_64 b0_70) [(.ref b0_70)])) t
      refine XS.iconst X89.here hx rfl (hb hby at_283) ?_
      show Steps p.tables e below (T89.setTop (mkF m 284 (la0_80 p0 p1 p2 p3 p4 b0_64 b0_70) [(.int (2 : Int32)), (.ref b0_70)])) t
      exact k
    obtain ⟨kc93, cl93, Ar93, q93, S93, M93, H93, G93⟩ := id u89_1
    have hin93 : ¬ ((2 : Int32) < 0 ∨ cl93.slots.size ≤ ((2 : Int32)).toNatClampNeg) := inb_of S93 ⟨by decide, by decide⟩
    have hat93 : cl93.slots[((2 : Int32)).toNatClampNeg]? = some (.int (if ((v0_41 p0 p1 p2 p3 p4) + (1 : Int32)) < (v0_11 p0 p1 p2 p3 p4) then (v0_60 p0 p1 p2 p3 p4) else (if ((v0_50 p0 p1 p2 p3 p4) + (1 : Int32)) < (v0_21 p0 p1 p2 p3 p4) then (v0_60 p0 p1 p2 p3 p4) else (if ((v0_60 p0 p1 p2 p3 p4) + (1 : Int32)) < (v0_32 p0 p1 p2 p3 p4) then ((v0_60 p0 p1 p2 p3 p4) + (1 : Int32)) else (0 : Int32))))) := Has.at H93 hin93 rfl
    refine OEnd.go (T' := T89) (g' := (mkF m 285 (la0_80 p0 p1 p2 p3 p4 b0_64 b0_70) [(.int (if ((v0_41 p0 p1 p2 p3 p4) + (1 : Int32)) < (v0_11 p0 p1 p2 p3 p4) then (v0_60 p0 p1 p2 p3 p4) else (if ((v0_50 p0 p1 p2 p3 p4) + (1 : Int32)) < (v0_21 p0 p1 p2 p3 p4) then (v0_60 p0 p1 p2 p3 p4) else (if ((v0_60 p0 p1 p2 p3 p4) + (1 : Int32)) < (v0_32 p0 p1 p2 p3 p4) then ((v0_60 p0 p1 p2 p3 p4) + (1 : Int32)) else (0 : Int32)))))])) (fun t k => ?_) ?_
    · refine X89.iaload hx (j := (2 : Int32)) (v := (.int (if ((v0_41 p0 p1 p2 p3 p4) + (1 : Int32)) < (v0_11 p0 p1 p2 p3 p4) then (v0_60 p0 p1 p2 p3 p4) else (if ((v0_50 p0 p1 p2 p3 p4) + (1 : Int32)) < (v0_21 p0 p1 p2 p3 p4) then (v0_60 p0 p1 p2 p3 p4) else (if ((v0_60 p0 p1 p2 p3 p4) + (1 : Int32)) < (v0_32 p0 p1 p2 p3 p4) then ((v0_60 p0 p1 p2 p3 p4) + (1 : Int32)) else (0 : Int32)))))) Ar93.1 (State.isArrayOf_alike hZ.alike Ar93.2.1) Ar93.2.2 hin93 hat93 (g := (mkF m 284 (la0_80 p0 p1 p2 p3 p4 b0_64 b0_70) [(.int (2 : Int32)), (.ref b0_70)])) rfl rfl (hb hby at_284) _ ?_
      exact k
    refine OEnd.go (T' := T89) (g' := (mkF m 295 (la0_81 p0 p1 p2 p3 p4 b0_64 b0_70) [(.int (v0_11 p0 p1 p2 p3 p4)), (.int (v0_257 p0 p1 p2 p3 p4))])) (fun t k => ?_) ?_
    · show Steps p.tables e below (T89.setTop (mkF m 285 (la0_80 p0 p1 p2 p3 p4 b0_64 b0_70) [(.int (if ((v0_41 p0 p1 p2 p3 p4) + (1 : Int32)) < (v0_11 p0 p1 p2 p3 p4) then (v0_60 p0 p1 p2 p3 p4) else (if ((v0_50 p0 p1 p2 p3 p4) + (1 : Int32)) < (v0_21 p0 p1 p2 p3 p4) then (v0_60 p0 p1 p2 p3 p4) else (if ((v0_60 p0 p1 p2 p3 p4) + (1 : Int32)) < (v0_32 p0 p1 p2 p3 p4) then ((v0_60 p0 p1 p2 p3 p4) + (1 : Int32)) else (0 : Int32)))))])) t
      refine XS.goto X89.here hx rfl (pc0 := 285) (pc' := 289) rfl (hb hby at_285) (by decide) (by decide) ?_
      show Steps p.tables e below (T89.setTop (mkF m 289 (la0_80 p0 p1 p2 p3 p4 b0_64 b0_70) [(.int (if ((v0_41 p0 p1 p2 p3 p4) + (1 : Int32)) < (v0_11 p0 p1 p2 p3 p4) then (v0_60 p0 p1 p2 p3 p4) else (if ((v0_50 p0 p1 p2 p3 p4) + (1 : Int32)) < (v0_21 p0 p1 p2 p3 p4) then (v0_60 p0 p1 p2 p3 p4) else (if ((v0_60 p0 p1 p2 p3 p4) + (1 : Int32)) < (v0_32 p0 p1 p2 p3 p4) then ((v0_60 p0 p1 p2 p3 p4) + (1 : Int32)) else (0 : Int32)))))])) t
      refine XS.istore X89.here hx rfl (hb hby at_289) rfl (l' := (la0_81 p0 p1 p2 p3 p4 b0_64 b0_70)) rfl ?_
      show Steps p.tables e below (T89.setTop (mkF m 291 (la0_81 p0 p1 p2 p3 p4 b0_64 b0_70) [])) t
      refine XS.iload X89.here hx rfl (hb hby at_291) rfl ?_
      show Steps p.tables e below (T89.setTop (mkF m 293 (la0_81 p0 p1 p2 p3 p4 b0_64 b0_70) [(.int (v0_257 p0 p1 p2 p3 p4))])) t
      refine XS.iload X89.here hx rfl (hb hby at_293) rfl ?_
      show Steps p.tables e below (T89.setTop (mkF m 295 (la0_81 p0 p1 p2 p3 p4 b0_64 b0_70) [(.int (v0_11 p0 p1 p2 p3 p4)), (.int (v0_257 p0 p1 p2 p3 p4))])) t
      exact k
    obtain ⟨_, _, ⟨T94, L94, k94, n94⟩, -, X94, ⟨Lc94, hQ94, l94, y94, z94⟩, st94⟩ := Jvm.LawKit.callS X89 hx (y := (⟨"com/example/assentor/assentor/check/OdometerAdvancePinLaw", "inRange", "(II)Z"⟩ : MethodName)) hown (mvT hZ (hw _ (List.mem_of_getElem? (i := 6) rfl))) (mvT hZ (hw _ (List.mem_of_getElem? (i := 7) rfl))) (mvT hZ (hw _ (List.mem_of_getElem? (i := 8) rfl))) (mvT hZ (hw _ (List.mem_of_getElem? (i := 9) rfl))) (by decide) (backOf (W := 0) (rm2 l Z aZ hw [] (v0_257 p0 p1 p2 p3 p4) (v0_11 p0 p1 p2 p3 p4) T89.heap n0 Z89 ) hZ (hw _ (List.mem_of_getElem? (i := 9) rfl)) (hw _ (List.mem_of_getElem? (i := 8) rfl)) (by decide) (by decide)) (g := (mkF m 295 (la0_81 p0 p1 p2 p3 p4 b0_64 b0_70) [(.int (v0_11 p0 p1 p2 p3 p4)), (.int (v0_257 p0 p1 p2 p3 p4))])) rfl (by rw [hml]; rfl) (argsL := [(.int (v0_257 p0 p1 p2 p3 p4)), (.int (v0_11 p0 p1 p2 p3 p4))]) (rest := []) (lenOf pd__II_Z rfl) rfl (by show 2 * 0 + _ ≤ _; exact Nat.le_of_eq rfl) (hb hby at_295) (fun _ _ => ⟨rfl, rfl, (by decide : 2 + 0 ≤ _), (by decide : 6 + 0 ≤ _)⟩)
    dsimp only [Pt.U, Pt.locs, Pt.cells, Pt.slots] at X94 l94 y94 z94 st94 hQ94
    subst l94 y94 z94
    obtain ⟨rfl, N94q, e94⟩ := hQ94
    have N94 := Fr.app N89 N94q
    refine OEnd.go (g' := (mkF m 298 (la0_81 p0 p1 p2 p3 p4 b0_64 b0_70) [(.int (f2 (v0_257 p0 p1 p2 p3 p4) (v0_11 p0 p1 p2 p3 p4)))])) st94 ?_
    obtain ⟨T96, L96, X96, e96, N96, st96⟩ : ORch p l e room_1 s m #[(.int p0), (.int p1), (.int p2), (.int p3), (.int p4)] below meth c n0 T94 (mkF m 298 (la0_81 p0 p1 p2 p3 p4 b0_64 b0_70) [(.int (f2 (v0_257 p0 p1 p2 p3 p4) (v0_11 p0 p1 p2 p3 p4)))]) T89.heap (mkF m 326 (la0_81 p0 p1 p2 p3 p4 b0_64 b0_70) [(.int (if (f2 (v0_257 p0 p1 p2 p3 p4) (v0_11 p0 p1 p2 p3 p4)) = (0 : Int32) then (0 : Int32) else (if (f2 (v0_273 p0 p1 p2 p3 p4) (v0_21 p0 p1 p2 p3 p4)) = (0 : Int32) then (0 : Int32) else (if (f2 (v0_289 p0 p1 p2 p3 p4) (v0_32 p0 p1 p2 p3 p4)) = (0 : Int32) then (0 : Int32) else (1 : Int32)))))]) 2 6 := by
      by_cases hc95 : (f2 (v0_257 p0 p1 p2 p3 p4) (v0_11 p0 p1 p2 p3 p4)) = (0 : Int32)
      · skip
        refine ORch.go (T' := T94) (g' := (mkF m 325 (la0_81 p0 p1 p2 p3 p4 b0_64 b0_70) [])) (fun t k => ?_) ?_
        · show Steps p.tables e below (T94.setTop (mkF m 298 (la0_81 p0 p1 p2 p3 p4 b0_64 b0_70) [(.int (f2 (v0_257 p0 p1 p2 p3 p4) (v0_11 p0 p1 p2 p3 p4)))])) t
          refine XS.ifYes X94.here hx rfl (pc0 := 298) (pc' := 325) rfl (hb hby at_298) rfl ((if0 _ _).trans (teq (hc95)).1) (by decide) (by decide) ?_
          show Steps p.tables e below (T94.setTop (mkF m 325 (la0_81 p0 p1 p2 p3 p4 b0_64 b0_70) [])) t
          exact k
        refine ORch.go (T' := T94) (g' := (mkF m 326 (la0_81 p0 p1 p2 p3 p4 b0_64 b0_70) [(.int (0 : Int32))])) (fun t k => ?_) ?_
        · show Steps p.tables e below (T94.setTop (mkF m 325 (la0_81 p0 p1 p2 p3 p4 b0_64 b0_70) [])) t
          refine XS.iconst X94.here hx rfl (hb hby at_325) ?_
          show Steps p.tables e below (T94.setTop (mkF m 326 (la0_81 p0 p1 p2 p3 p4 b0_64 b0_70) [(.int (0 : Int32))])) t
          exact k
        exact ⟨_, _, X94, e94, N94, fun t k => (own_k (f := fun (z : Int32) => mkF m 326 #[.val (.int p0), .val (.int p1), .val (.int p2), .val (.int p3), .val (.int p4), .val (.int (3 : Int32)), .val (.int (v0_11 p0 p1 p2 p3 p4)), .val (.int (v0_21 p0 p1 p2 p3 p4)), .val (.int (v0_32 p0 p1 p2 p3 p4)), .val (.int (v0_41 p0 p1 p2 p3 p4)), .val (.int (v0_50 p0 p1 p2 p3 p4)), .val (.int (v0_60 p0 p1 p2 p3 p4)), .val (.ref b0_64), .val (.ref b0_70), .val (.int (v0_11 p0 p1 p2 p3 p4)), .val (.int (v0_21 p0 p1 p2 p3 p4)), .val (.int (v0_32 p0 p1 p2 p3 p4)), .val (.int (v0_41 p0 p1 p2 p3 p4)), .val (.int (v0_50 p0 p1 p2 p3 p4)), .val (.int (v0_60 p0 p1 p2 p3 p4)), .val (.int (v0_217xx p0 p1 p2 p3 p4)), .val (.int (v0_233xx p0 p1 p2 p3 p4)), .val (.int (v0_242xx p0 p1 p2 p3 p4)), .val (.int (v0_257 p0 p1 p2 p3 p4)), .val (.int (v0_273 p0 p1 p2 p3 p4)), .val (.int (v0_289 p0 p1 p2 p3 p4)), .unset, .unset, .unset, .unset, .unset] [(.int z)]) (if_pos hc95) k)⟩
      · skip
        refine ORch.go (T' := T94) (g' := (mkF m 301 (la0_81 p0 p1 p2 p3 p4 b0_64 b0_70) [])) (fun t k => ?_) ?_
        · show Steps p.tables e below (T94.setTop (mkF m 298 (la0_81 p0 p1 p2 p3 p4 b0_64 b0_70) [(.int (f2 (v0_257 p0 p1 p2 p3 p4) (v0_11 p0 p1 p2 p3 p4)))])) t
          refine XS.ifNo X94.here hx rfl (hb hby at_298) rfl ((if0 _ _).trans (feq (hc95)).1) ?_
          show Steps p.tables e below (T94.setTop (mkF m 301 (la0_81 p0 p1 p2 p3 p4 b0_64 b0_70) [])) t
          exact k
        refine ORch.go (T' := T94) (g' := (mkF m 305 (la0_81 p0 p1 p2 p3 p4 b0_64 b0_70) [(.int (v0_21 p0 p1 p2 p3 p4)), (.int (v0_273 p0 p1 p2 p3 p4))])) (fun t k => ?_) ?_
        · show Steps p.tables e below (T94.setTop (mkF m 301 (la0_81 p0 p1 p2 p3 p4 b0_64 b0_70) [])) t
          refine XS.iload X94.here hx rfl (hb hby at_301) rfl ?_
          show Steps p.tables e below (T94.setTop (mkF m 303 (la0_81 p0 p1 p2 p3 p4 b0_64 b0_70) [(.int (v0_273 p0 p1 p2 p3 p4))])) t
          refine XS.iload X94.here hx rfl (hb hby at_303) rfl ?_
          show Steps p.tables e below (T94.setTop (mkF m 305 (la0_81 p0 p1 p2 p3 p4 b0_64 b0_70) [(.int (v0_21 p0 p1 p2 p3 p4)), (.int (v0_273 p0 p1 p2 p3 p4))])) t
          exact k
        obtain ⟨_, _, ⟨T97, L97, k97, n97⟩, -, X97, ⟨Lc97, hQ97, l97, y97, z97⟩, st97⟩ := Jvm.LawKit.callS X94 hx (y := (⟨"com/example/assentor/assentor/check/OdometerAdvancePinLaw", "inRange", "(II)Z"⟩ : MethodName)) hown (mvT hZ (hw _ (List.mem_of_getElem? (i := 6) rfl))) (mvT hZ (hw _ (List.mem_of_getElem? (i := 7) rfl))) (mvT hZ (hw _ (List.mem_of_getElem? (i := 8) rfl))) (mvT hZ (hw _ (List.mem_of_getElem? (i := 9) rfl))) (by decide) (backOf (W := 0) (rm2 l Z aZ hw [] (v0_273 p0 p1 p2 p3 p4) (v0_21 p0 p1 p2 p3 p4) T89.heap n0 Z89 ) hZ (hw _ (List.mem_of_getElem? (i := 9) rfl)) (hw _ (List.mem_of_getElem? (i := 8) rfl)) (by decide) (by decide)) (g := (mkF m 305 (la0_81 p0 p1 p2 p3 p4 b0_64 b0_70) [(.int (v0_21 p0 p1 p2 p3 p4)), (.int (v0_273 p0 p1 p2 p3 p4))])) rfl (by rw [hml]; rfl) (argsL := [(.int (v0_273 p0 p1 p2 p3 p4)), (.int (v0_21 p0 p1 p2 p3 p4))]) (rest := []) (lenOf pd__II_Z rfl) rfl (by show 2 * 0 + _ ≤ _; exact Nat.le_of_eq rfl) (hb hby at_305) (fun _ _ => ⟨rfl, e94, (by decide : 2 + 0 ≤ _), (by decide : 6 + 0 ≤ _)⟩)
        dsimp only [Pt.U, Pt.locs, Pt.cells, Pt.slots] at X97 l97 y97 z97 st97 hQ97
        subst l97 y97 z97
        obtain ⟨rfl, N97q, e97⟩ := hQ97
        have N97 := Fr.app N94 N97q
        refine ORch.go (g' := (mkF m 308 (la0_81 p0 p1 p2 p3 p4 b0_64 b0_70) [(.int (f2 (v0_273 p0 p1 p2 p3 p4) (v0_21 p0 p1 p2 p3 p4)))])) st97 ?_
        by_cases hc98 : (f2 (v0_273 p0 p1 p2 p3 p4) (v0_21 p0 p1 p2 p3 p4)) = (0 : Int32)
        · skip
          refine ORch.go (T' := T97) (g' := (mkF m 325 (la0_81 p0 p1 p2 p3 p4 b0_64 b0_70) [])) (fun t k => ?_) ?_
          · show Steps p.tables e below (T97.setTop (mkF m 308 (la0_81 p0 p1 p2 p3 p4 b0_64 b0_70) [(.int (f2 (v0_273 p0 p1 p2 p3 p4) (v0_21 p0 p1 p2 p3 p4)))])) t
            refine XS.ifYes X97.here hx rfl (pc0 := 308) (pc' := 325) rfl (hb hby at_308) rfl ((if0 _ _).trans (teq (hc98)).1) (by decide) (by decide) ?_
            show Steps p.tables e below (T97.setTop (mkF m 325 (la0_81 p0 p1 p2 p3 p4 b0_64 b0_70) [])) t
            exact k
          refine ORch.go (T' := T97) (g' := (mkF m 326 (la0_81 p0 p1 p2 p3 p4 b0_64 b0_70) [(.int (0 : Int32))])) (fun t k => ?_) ?_
          · show Steps p.tables e below (T97.setTop (mkF m 325 (la0_81 p0 p1 p2 p3 p4 b0_64 b0_70) [])) t
            refine XS.iconst X97.here hx rfl (hb hby at_325) ?_
            show Steps p.tables e below (T97.setTop (mkF m 326 (la0_81 p0 p1 p2 p3 p4 b0_64 b0_70) [(.int (0 : Int32))])) t
            exact k
          exact ⟨_, _, X97, e97, N97, fun t k => (own_k (f := fun (z : Int32) => mkF m 326 #[.val (.int p0), .val (.int p1), .val (.int p2), .val (.int p3), .val (.int p4), .val (.int (3 : Int32)), .val (.int (v0_11 p0 p1 p2 p3 p4)), .val (.int (v0_21 p0 p1 p2 p3 p4)), .val (.int (v0_32 p0 p1 p2 p3 p4)), .val (.int (v0_41 p0 p1 p2 p3 p4)), .val (.int (v0_50 p0 p1 p2 p3 p4)), .val (.int (v0_60 p0 p1 p2 p3 p4)), .val (.ref b0_64), .val (.ref b0_70), .val (.int (v0_11 p0 p1 p2 p3 p4)), .val (.int (v0_21 p0 p1 p2 p3 p4)), .val (.int (v0_32 p0 p1 p2 p3 p4)), .val (.int (v0_41 p0 p1 p2 p3 p4)), .val (.int (v0_50 p0 p1 p2 p3 p4)), .val (.int (v0_60 p0 p1 p2 p3 p4)), .val (.int (v0_217xx p0 p1 p2 p3 p4)), .val (.int (v0_233xx p0 p1 p2 p3 p4)), .val (.int (v0_242xx p0 p1 p2 p3 p4)), .val (.int (v0_257 p0 p1 p2 p3 p4)), .val (.int (v0_273 p0 p1 p2 p3 p4)), .val (.int (v0_289 p0 p1 p2 p3 p4)), .unset, .unset, .unset, .unset, .unset] [(.int z)]) ((if_neg hc95).trans (if_pos hc98)) k)⟩
        · skip
          refine ORch.go (T' := T97) (g' := (mkF m 311 (la0_81 p0 p1 p2 p3 p4 b0_64 b0_70) [])) (fun t k => ?_) ?_
          · show Steps p.tables e below (T97.setTop (mkF m 308 (la0_81 p0 p1 p2 p3 p4 b0_64 b0_70) [(.int (f2 (v0_273 p0 p1 p2 p3 p4) (v0_21 p0 p1 p2 p3 p4)))])) t
            refine XS.ifNo X97.here hx rfl (hb hby at_308) rfl ((if0 _ _).trans (feq (hc98)).1) ?_
            show Steps p.tables e below (T97.setTop (mkF m 311 (la0_81 p0 p1 p2 p3 p4 b0_64 b0_70) [])) t
            exact k
          refine ORch.go (T' := T97) (g' := (mkF m 315 (la0_81 p0 p1 p2 p3 p4 b0_64 b0_70) [(.int (v0_32 p0 p1 p2 p3 p4)), (.int (v0_289 p0 p1 p2 p3 p4))])) (fun t k => ?_) ?_
          · show Steps p.tables e below (T97.setTop (mkF m 311 (la0_81 p0 p1 p2 p3 p4 b0_64 b0_70) [])) t
            refine XS.iload X97.here hx rfl (hb hby at_311) rfl ?_
            show Steps p.tables e below (T97.setTop (mkF m 313 (la0_81 p0 p1 p2 p3 p4 b0_64 b0_70) [(.int (v0_289 p0 p1 p2 p3 p4))])) t
            refine XS.iload X97.here hx rfl (hb hby at_313) rfl ?_
            show Steps p.tables e below (T97.setTop (mkF m 315 (la0_81 p0 p1 p2 p3 p4 b0_64 b0_70) [(.int (v0_32 p0 p1 p2 p3 p4)), (.int (v0_289 p0 p1 p2 p3 p4))])) t
            exact k
          obtain ⟨_, _, ⟨T99, L99, k99, n99⟩, -, X99, ⟨Lc99, hQ99, l99, y99, z99⟩, st99⟩ := Jvm.LawKit.callS X97 hx (y := (⟨"com/example/assentor/assentor/check/OdometerAdvancePinLaw", "inRange", "(II)Z"⟩ : MethodName)) hown (mvT hZ (hw _ (List.mem_of_getElem? (i := 6) rfl))) (mvT hZ (hw _ (List.mem_of_getElem? (i := 7) rfl))) (mvT hZ (hw _ (List.mem_of_getElem? (i := 8) rfl))) (mvT hZ (hw _ (List.mem_of_getElem? (i := 9) rfl))) (by decide) (backOf (W := 0) (rm2 l Z aZ hw [] (v0_289 p0 p1 p2 p3 p4) (v0_32 p0 p1 p2 p3 p4) T89.heap n0 Z89 ) hZ (hw _ (List.mem_of_getElem? (i := 9) rfl)) (hw _ (List.mem_of_getElem? (i := 8) rfl)) (by decide) (by decide)) (g := (mkF m 315 (la0_81 p0 p1 p2 p3 p4 b0_64 b0_70) [(.int (v0_32 p0 p1 p2 p3 p4)), (.int (v0_289 p0 p1 p2 p3 p4))])) rfl (by rw [hml]; rfl) (argsL := [(.int (v0_289 p0 p1 p2 p3 p4)), (.int (v0_32 p0 p1 p2 p3 p4))]) (rest := []) (lenOf pd__II_Z rfl) rfl (by show 2 * 0 + _ ≤ _; exact Nat.le_of_eq rfl) (hb hby at_315) (fun _ _ => ⟨rfl, e97, (by decide : 2 + 0 ≤ _), (by decide : 6 + 0 ≤ _)⟩)
          dsimp only [Pt.U, Pt.locs, Pt.cells, Pt.slots] at X99 l99 y99 z99 st99 hQ99
          subst l99 y99 z99
          obtain ⟨rfl, N99q, e99⟩ := hQ99
          have N99 := Fr.app N97 N99q
          refine ORch.go (g' := (mkF m 318 (la0_81 p0 p1 p2 p3 p4 b0_64 b0_70) [(.int (f2 (v0_289 p0 p1 p2 p3 p4) (v0_32 p0 p1 p2 p3 p4)))])) st99 ?_
          by_cases hc100 : (f2 (v0_289 p0 p1 p2 p3 p4) (v0_32 p0 p1 p2 p3 p4)) = (0 : Int32)
          · skip
            refine ORch.go (T' := T99) (g' := (mkF m 325 (la0_81 p0 p1 p2 p3 p4 b0_64 b0_70) [])) (fun t k => ?_) ?_
            · show Steps p.tables e below (T99.setTop (mkF m 318 (la0_81 p0 p1 p2 p3 p4 b0_64 b0_70) [(.int (f2 (v0_289 p0 p1 p2 p3 p4) (v0_32 p0 p1 p2 p3 p4)))])) t
              refine XS.ifYes X99.here hx rfl (pc0 := 318) (pc' := 325) rfl (hb hby at_318) rfl ((if0 _ _).trans (teq (hc100)).1) (by decide) (by decide) ?_
              show Steps p.tables e below (T99.setTop (mkF m 325 (la0_81 p0 p1 p2 p3 p4 b0_64 b0_70) [])) t
              exact k
            refine ORch.go (T' := T99) (g' := (mkF m 326 (la0_81 p0 p1 p2 p3 p4 b0_64 b0_70) [(.int (0 : Int32))])) (fun t k => ?_) ?_
            · show Steps p.tables e below (T99.setTop (mkF m 325 (la0_81 p0 p1 p2 p3 p4 b0_64 b0_70) [])) t
              refine XS.iconst X99.here hx rfl (hb hby at_325) ?_
              show Steps p.tables e below (T99.setTop (mkF m 326 (la0_81 p0 p1 p2 p3 p4 b0_64 b0_70) [(.int (0 : Int32))])) t
              exact k
            exact ⟨_, _, X99, e99, N99, fun t k => (own_k (f := fun (z : Int32) => mkF m 326 #[.val (.int p0), .val (.int p1), .val (.int p2), .val (.int p3), .val (.int p4), .val (.int (3 : Int32)), .val (.int (v0_11 p0 p1 p2 p3 p4)), .val (.int (v0_21 p0 p1 p2 p3 p4)), .val (.int (v0_32 p0 p1 p2 p3 p4)), .val (.int (v0_41 p0 p1 p2 p3 p4)), .val (.int (v0_50 p0 p1 p2 p3 p4)), .val (.int (v0_60 p0 p1 p2 p3 p4)), .val (.ref b0_64), .val (.ref b0_70), .val (.int (v0_11 p0 p1 p2 p3 p4)), .val (.int (v0_21 p0 p1 p2 p3 p4)), .val (.int (v0_32 p0 p1 p2 p3 p4)), .val (.int (v0_41 p0 p1 p2 p3 p4)), .val (.int (v0_50 p0 p1 p2 p3 p4)), .val (.int (v0_60 p0 p1 p2 p3 p4)), .val (.int (v0_217xx p0 p1 p2 p3 p4)), .val (.int (v0_233xx p0 p1 p2 p3 p4)), .val (.int (v0_242xx p0 p1 p2 p3 p4)), .val (.int (v0_257 p0 p1 p2 p3 p4)), .val (.int (v0_273 p0 p1 p2 p3 p4)), .val (.int (v0_289 p0 p1 p2 p3 p4)), .unset, .unset, .unset, .unset, .unset] [(.int z)]) ((if_neg hc95).trans ((if_neg hc98).trans (if_pos hc100))) k)⟩
          · skip
            refine ORch.go (T' := T99) (g' := (mkF m 321 (la0_81 p0 p1 p2 p3 p4 b0_64 b0_70) [])) (fun t k => ?_) ?_
            · show Steps p.tables e below (T99.setTop (mkF m 318 (la0_81 p0 p1 p2 p3 p4 b0_64 b0_70) [(.int (f2 (v0_289 p0 p1 p2 p3 p4) (v0_32 p0 p1 p2 p3 p4)))])) t
              refine XS.ifNo X99.here hx rfl (hb hby at_318) rfl ((if0 _ _).trans (feq (hc100)).1) ?_
              show Steps p.tables e below (T99.setTop (mkF m 321 (la0_81 p0 p1 p2 p3 p4 b0_64 b0_70) [])) t
              exact k
            refine ORch.go (T' := T99) (g' := (mkF m 326 (la0_81 p0 p1 p2 p3 p4 b0_64 b0_70) [(.int (1 : Int32))])) (fun t k => ?_) ?_
            · show Steps p.tables e below (T99.setTop (mkF m 321 (la0_81 p0 p1 p2 p3 p4 b0_64 b0_70) [])) t
              refine XS.iconst X99.here hx rfl (hb hby at_321) ?_
              show Steps p.tables e below (T99.setTop (mkF m 322 (la0_81 p0 p1 p2 p3 p4 b0_64 b0_70) [(.int (1 : Int32))])) t
              refine XS.goto X99.here hx rfl (pc0 := 322) (pc' := 326) rfl (hb hby at_322) (by decide) (by decide) ?_
              show Steps p.tables e below (T99.setTop (mkF m 326 (la0_81 p0 p1 p2 p3 p4 b0_64 b0_70) [(.int (1 : Int32))])) t
              exact k
            exact ⟨_, _, X99, e99, N99, fun t k => (own_k (f := fun (z : Int32) => mkF m 326 #[.val (.int p0), .val (.int p1), .val (.int p2), .val (.int p3), .val (.int p4), .val (.int (3 : Int32)), .val (.int (v0_11 p0 p1 p2 p3 p4)), .val (.int (v0_21 p0 p1 p2 p3 p4)), .val (.int (v0_32 p0 p1 p2 p3 p4)), .val (.int (v0_41 p0 p1 p2 p3 p4)), .val (.int (v0_50 p0 p1 p2 p3 p4)), .val (.int (v0_60 p0 p1 p2 p3 p4)), .val (.ref b0_64), .val (.ref b0_70), .val (.int (v0_11 p0 p1 p2 p3 p4)), .val (.int (v0_21 p0 p1 p2 p3 p4)), .val (.int (v0_32 p0 p1 p2 p3 p4)), .val (.int (v0_41 p0 p1 p2 p3 p4)), .val (.int (v0_50 p0 p1 p2 p3 p4)), .val (.int (v0_60 p0 p1 p2 p3 p4)), .val (.int (v0_217xx p0 p1 p2 p3 p4)), .val (.int (v0_233xx p0 p1 p2 p3 p4)), .val (.int (v0_242xx p0 p1 p2 p3 p4)), .val (.int (v0_257 p0 p1 p2 p3 p4)), .val (.int (v0_273 p0 p1 p2 p3 p4)), .val (.int (v0_289 p0 p1 p2 p3 p4)), .unset, .unset, .unset, .unset, .unset] [(.int z)]) ((if_neg hc95).trans ((if_neg hc98).trans (if_neg hc100))) k)⟩
    refine OEnd.go (g' := (mkF m 326 (la0_81 p0 p1 p2 p3 p4 b0_64 b0_70) [(.int (if (f2 (v0_257 p0 p1 p2 p3 p4) (v0_11 p0 p1 p2 p3 p4)) = (0 : Int32) then (0 : Int32) else (if (f2 (v0_273 p0 p1 p2 p3 p4) (v0_21 p0 p1 p2 p3 p4)) = (0 : Int32) then (0 : Int32) else (if (f2 (v0_289 p0 p1 p2 p3 p4) (v0_32 p0 p1 p2 p3 p4)) = (0 : Int32) then (0 : Int32) else (1 : Int32)))))])) st96 ?_
    refine OEnd.go (T' := T96) (g' := (mkF m 336 (la0_82 p0 p1 p2 p3 p4 b0_64 b0_70) [(.int (0 : Int32)), (.ref b0_64)])) (fun t k => ?_) ?_
    · show Steps p.tables e below (T96.setTop (mkF m 326 (la0_81 p0 p1 p2 p3 p4 b0_64 b0_70) [(.int (if (f2 (v0_257 p0 p1 p2 p3 p4) (v0_11 p0 p1 p2 p3 p4)) = (0 : Int32) then (0 : Int32) else (if (f2 (v0_273 p0 p1 p2 p3 p4) (v0_21 p0 p1 p2 p3 p4)) = (0 : Int32) then (0 : Int32) else (if (f2 (v0_289 p0 p1 p2 p3 p4) (v0_32 p0 p1 p2 p3 p4)) = (0 : Int32) then (0 : Int32) else (1 : Int32)))))])) t
      refine XS.istore X96.here hx rfl (hb hby at_326) rfl (l' := (la0_82 p0 p1 p2 p3 p4 b0_64 b0_70)) rfl ?_
      show Steps p.tables e below (T96.setTop (mkF m 328 (la0_82 p0 p1 p2 p3 p4 b0_64 b0_70) [])) t
      refine XS.iload X96.here hx rfl (hb hby at_328) rfl ?_
      show Steps p.tables e below (T96.setTop (mkF m 330 (la0_82 p0 p1 p2 p3 p4 b0_64 b0_70) [(.int (3 : Int32))])) t
      refine XS.ifNo X96.here hx rfl (hb hby at_330) rfl ((if0 _ _).trans (tlt ((by decide))).2.2.2) ?_
      show Steps p.tables e below (T96.setTop (mkF m 333 (la0_82 p0 p1 p2 p3 p4 b0_64 b0_70) [])) t
      refine XS.aload X96.here hx rfl (hb hby at_333) rfl rfl ?_
      show Steps p.tables e below (T96.setTop (mkF m 335 (la0_82 p0 p1 p2 p3 p4 b0_64 b0_70) [(.ref b0_64)])) t
      refine XS.iconst X96.here hx rfl (hb hby at_335) ?_
      show Steps p.tables e below (T96.setTop (mkF m 336 (la0_82 p0 p1 p2 p3 p4 b0_64 b0_70) [(.int (0 : Int32)), (.ref b0_64)])) t
      exact k
    obtain ⟨kc101, cl101, Ar101, q101, S101, M101, H101, G101⟩ := id fc90
    have hin101 : ¬ ((0 : Int32) < 0 ∨ cl101.slots.size ≤ ((0 : Int32)).toNatClampNeg) := inb_of S101 ⟨by decide, by decide⟩
    have hat101 : cl101.slots[((0 : Int32)).toNatClampNeg]? = some (.int (v0_11 p0 p1 p2 p3 p4)) := Has.at H101 hin101 rfl
    refine OEnd.go (T' := T96) (g' := (mkF m 337 (la0_82 p0 p1 p2 p3 p4 b0_64 b0_70) [(.int (v0_11 p0 p1 p2 p3 p4))])) (fun t k => ?_) ?_
    · refine X96.iaload hx (j := (0 : Int32)) (v := (.int (v0_11 p0 p1 p2 p3 p4))) (by rw [e96]; exact Ar101.1) (State.isArrayOf_alike hZ.alike Ar101.2.1) Ar101.2.2 hin101 hat101 (g := (mkF m 336 (la0_82 p0 p1 p2 p3 p4 b0_64 b0_70) [(.int (0 : Int32)), (.ref b0_64)])) rfl rfl (hb hby at_336) _ ?_
      exact k
    refine OEnd.go (T' := T96) (g' := (mkF m 339 (la0_82 p0 p1 p2 p3 p4 b0_64 b0_70) [(.int (v0_11 p0 p1 p2 p3 p4)), (.int (v0_11 p0 p1 p2 p3 p4))])) (fun t k => ?_) ?_
    · show Steps p.tables e below (T96.setTop (mkF m 337 (la0_82 p0 p1 p2 p3 p4 b0_64 b0_70) [(.int (v0_11 p0 p1 p2 p3 p4))])) t
      refine XS.iload X96.here hx rfl (hb hby at_337) rfl ?_
      show Steps p.tables e below (T96.setTop (mkF m 339 (la0_82 p0 p1 p2 p3 p4 b0_64 b0_70) [(.int (v0_11 p0 p1 p2 p3 p4)), (.int (v0_11 p0 p1 p2 p3 p4))])) t
      exact k
    obtain ⟨T103, L103, X103, e103, N103, st103⟩ : ORch p l e room_1 s m #[(.int p0), (.int p1), (.int p2), (.int p3), (.int p4)] below meth c n0 T96 (mkF m 339 (la0_82 p0 p1 p2 p3 p4 b0_64 b0_70) [(.int (v0_11 p0 p1 p2 p3 p4)), (.int (v0_11 p0 p1 p2 p3 p4))]) T89.heap (mkF m 377 (la0_82 p0 p1 p2 p3 p4 b0_64 b0_70) [(.int (if (v0_11 p0 p1 p2 p3 p4) = (v0_11 p0 p1 p2 p3 p4) then (if (v0_21 p0 p1 p2 p3 p4) = (v0_21 p0 p1 p2 p3 p4) then (if (v0_32 p0 p1 p2 p3 p4) = (v0_32 p0 p1 p2 p3 p4) then (1 : Int32) else (0 : Int32)) else (0 : Int32)) else (0 : Int32)))]) 2 6 := by
      by_cases hc102 : (v0_11 p0 p1 p2 p3 p4) = (v0_11 p0 p1 p2 p3 p4)
      · skip
        refine ORch.go (T' := T96) (g' := (mkF m 342 (la0_82 p0 p1 p2 p3 p4 b0_64 b0_70) [])) (fun t k => ?_) ?_
        · show Steps p.tables e below (T96.setTop (mkF m 339 (la0_82 p0 p1 p2 p3 p4 b0_64 b0_70) [(.int (v0_11 p0 p1 p2 p3 p4)), (.int (v0_11 p0 p1 p2 p3 p4))])) t
          refine XS.icmpNo X96.here hx rfl (hb hby at_339) rfl (teq (hc102)).2 ?_
          show Steps p.tables e below (T96.setTop (mkF m 342 (la0_82 p0 p1 p2 p3 p4 b0_64 b0_70) [])) t
          exact k
        refine ORch.go (T' := T96) (g' := (mkF m 351 (la0_82 p0 p1 p2 p3 p4 b0_64 b0_70) [(.int (1 : Int32)), (.ref b0_64)])) (fun t k => ?_) ?_
        · show Steps p.tables e below (T96.setTop (mkF m 342 (la0_82 p0 p1 p2 p3 p4 b0_64 b0_70) [])) t
          refine XS.iload X96.here hx rfl (hb hby at_342) rfl ?_
          show Steps p.tables e below (T96.setTop (mkF m 344 (la0_82 p0 p1 p2 p3 p4 b0_64 b0_70) [(.int (3 : Int32))])) t
          refine XS.iconst X96.here hx rfl (hb hby at_344) ?_
          show Steps p.tables e below (T96.setTop (mkF m 345 (la0_82 p0 p1 p2 p3 p4 b0_64 b0_70) [(.int (1 : Int32)), (.int (3 : Int32))])) t
          refine XS.icmpNo X96.here hx rfl (hb hby at_345) rfl (tlt ((by decide))).2.2.2 ?_
          show Steps p.tables e below (T96.setTop (mkF m 348 (la0_82 p0 p1 p2 p3 p4 b0_64 b0_70) [])) t
          refine XS.aload X96.here hx rfl (hb hby at_348) rfl rfl ?_
          show Steps p.tables e below (T96.setTop (mkF m 350 (la0_82 p0 p1 p2 p3 p4 b0_64 b0_70) [(.ref b0_64)])) t
          refine XS.iconst X96.here hx rfl (hb hby at_350) ?_
          show Steps p.tables e below (T96.setTop (mkF m 351 (la0_82 p0 p1 p2 p3 p4 b0_64 b0_70) [(.int (1 : Int32)), (.ref b0_64)])) t
          exact k
        obtain ⟨kc104, cl104, Ar104, q104, S104, M104, H104, G104⟩ := id fc90
        have hin104 : ¬ ((1 : Int32) < 0 ∨ cl104.slots.size ≤ ((1 : Int32)).toNatClampNeg) := inb_of S104 ⟨by decide, by decide⟩
        have hat104 : cl104.slots[((1 : Int32)).toNatClampNeg]? = some (.int (v0_21 p0 p1 p2 p3 p4)) := Has.at H104 hin104 rfl
        refine ORch.go (T' := T96) (g' := (mkF m 352 (la0_82 p0 p1 p2 p3 p4 b0_64 b0_70) [(.int (v0_21 p0 p1 p2 p3 p4))])) (fun t k => ?_) ?_
        · refine X96.iaload hx (j := (1 : Int32)) (v := (.int (v0_21 p0 p1 p2 p3 p4))) (by rw [e96]; exact Ar104.1) (State.isArrayOf_alike hZ.alike Ar104.2.1) Ar104.2.2 hin104 hat104 (g := (mkF m 351 (la0_82 p0 p1 p2 p3 p4 b0_64 b0_70) [(.int (1 : Int32)), (.ref b0_64)])) rfl rfl (hb hby at_351) _ ?_
          exact k
        refine ORch.go (T' := T96) (g' := (mkF m 354 (la0_82 p0 p1 p2 p3 p4 b0_64 b0_70) [(.int (v0_21 p0 p1 p2 p3 p4)), (.int (v0_21 p0 p1 p2 p3 p4))])) (fun t k => ?_) ?_
        · show Steps p.tables e below (T96.setTop (mkF m 352 (la0_82 p0 p1 p2 p3 p4 b0_64 b0_70) [(.int (v0_21 p0 p1 p2 p3 p4))])) t
          refine XS.iload X96.here hx rfl (hb hby at_352) rfl ?_
          show Steps p.tables e below (T96.setTop (mkF m 354 (la0_82 p0 p1 p2 p3 p4 b0_64 b0_70) [(.int (v0_21 p0 p1 p2 p3 p4)), (.int (v0_21 p0 p1 p2 p3 p4))])) t
          exact k
        by_cases hc105 : (v0_21 p0 p1 p2 p3 p4) = (v0_21 p0 p1 p2 p3 p4)
        · skip
          refine ORch.go (T' := T96) (g' := (mkF m 357 (la0_82 p0 p1 p2 p3 p4 b0_64 b0_70) [])) (fun t k => ?_) ?_
          · show Steps p.tables e below (T96.setTop (mkF m 354 (la0_82 p0 p1 p2 p3 p4 b0_64 b0_70) [(.int (v0_21 p0 p1 p2 p3 p4)), (.int (v0_21 p0 p1 p2 p3 p4))])) t
            refine XS.icmpNo X96.here hx rfl (hb hby at_354) rfl (teq (hc105)).2 ?_
            show Steps p.tables e below (T96.setTop (mkF m 357 (la0_82 p0 p1 p2 p3 p4 b0_64 b0_70) [])) t
            exact k
          refine ORch.go (T' := T96) (g' := (mkF m 366 (la0_82 p0 p1 p2 p3 p4 b0_64 b0_70) [(.int (2 : Int32)), (.ref b0_64)])) (fun t k => ?_) ?_
          · show Steps p.tables e below (T96.setTop (mkF m 357 (la0_82 p0 p1 p2 p3 p4 b0_64 b0_70) [])) t
            refine XS.iload X96.here hx rfl (hb hby at_357) rfl ?_
            show Steps p.tables e below (T96.setTop (mkF m 359 (la0_82 p0 p1 p2 p3 p4 b0_64 b0_70) [(.int (3 : Int32))])) t
            refine XS.iconst X96.here hx rfl (hb hby at_359) ?_
            show Steps p.tables e below (T96.setTop (mkF m 360 (la0_82 p0 p1 p2 p3 p4 b0_64 b0_70) [(.int (2 : Int32)), (.int (3 : Int32))])) t
            refine XS.icmpNo X96.here hx rfl (hb hby at_360) rfl (tlt ((by decide))).2.2.2 ?_
            show Steps p.tables e below (T96.setTop (mkF m 363 (la0_82 p0 p1 p2 p3 p4 b0_64 b0_70) [])) t
            refine XS.aload X96.here hx rfl (hb hby at_363) rfl rfl ?_
            show Steps p.tables e below (T96.setTop (mkF m 365 (la0_82 p0 p1 p2 p3 p4 b0_64 b0_70) [(.ref b0_64)])) t
            refine XS.iconst X96.here hx rfl (hb hby at_365) ?_
            show Steps p.tables e below (T96.setTop (mkF m 366 (la0_82 p0 p1 p2 p3 p4 b0_64 b0_70) [(.int (2 : Int32)), (.ref b0_64)])) t
            exact k
          obtain ⟨kc106, cl106, Ar106, q106, S106, M106, H106, G106⟩ := id fc90
          have hin106 : ¬ ((2 : Int32) < 0 ∨ cl106.slots.size ≤ ((2 : Int32)).toNatClampNeg) := inb_of S106 ⟨by decide, by decide⟩
          have hat106 : cl106.slots[((2 : Int32)).toNatClampNeg]? = some (.int (v0_32 p0 p1 p2 p3 p4)) := Has.at H106 hin106 rfl
          refine ORch.go (T' := T96) (g' := (mkF m 367 (la0_82 p0 p1 p2 p3 p4 b0_64 b0_70) [(.int (v0_32 p0 p1 p2 p3 p4))])) (fun t k => ?_) ?_
          · refine X96.iaload hx (j := (2 : Int32)) (v := (.int (v0_32 p0 p1 p2 p3 p4))) (by rw [e96]; exact Ar106.1) (State.isArrayOf_alike hZ.alike Ar106.2.1) Ar106.2.2 hin106 hat106 (g := (mkF m 366 (la0_82 p0 p1 p2 p3 p4 b0_64 b0_70) [(.int (2 : Int32)), (.ref b0_64)])) rfl rfl (hb hby at_366) _ ?_
            exact k
          refine ORch.go (T' := T96) (g' := (mkF m 369 (la0_82 p0 p1 p2 p3 p4 b0_64 b0_70) [(.int (v0_32 p0 p1 p2 p3 p4)), (.int (v0_32 p0 p1 p2 p3 p4))])) (fun t k => ?_) ?_
          · show Steps p.tables e below (T96.setTop (mkF m 367 (la0_82 p0 p1 p2 p3 p4 b0_64 b0_70) [(.int (v0_32 p0 p1 p2 p3 p4))])) t
            refine XS.iload X96.here hx rfl (hb hby at_367) rfl ?_
            show Steps p.tables e below (T96.setTop (mkF m 369 (la0_82 p0 p1 p2 p3 p4 b0_64 b0_70) [(.int (v0_32 p0 p1 p2 p3 p4)), (.int (v0_32 p0 p1 p2 p3 p4))])) t
            exact k
          by_cases hc107 : (v0_32 p0 p1 p2 p3 p4) = (v0_32 p0 p1 p2 p3 p4)
          · skip
            refine ORch.go (T' := T96) (g' := (mkF m 372 (la0_82 p0 p1 p2 p3 p4 b0_64 b0_70) [])) (fun t k => ?_) ?_
            · show Steps p.tables e below (T96.setTop (mkF m 369 (la0_82 p0 p1 p2 p3 p4 b0_64 b0_70) [(.int (v0_32 p0 p1 p2 p3 p4)), (.int (v0_32 p0 p1 p2 p3 p4))])) t
              refine XS.icmpNo X96.here hx rfl (hb hby at_369) rfl (teq (hc107)).2 ?_
              show Steps p.tables e below (T96.setTop (mkF m 372 (la0_82 p0 p1 p2 p3 p4 b0_64 b0_70) [])) t
              exact k
            refine ORch.go (T' := T96) (g' := (mkF m 377 (la0_82 p0 p1 p2 p3 p4 b0_64 b0_70) [(.int (1 : Int32))])) (fun t k => ?_) ?_
            · show Steps p.tables e below (T96.setTop (mkF m 372 (la0_82 p0 p1 p2 p3 p4 b0_64 b0_70) [])) t
              refine XS.iconst X96.here hx rfl (hb hby at_372) ?_
              show Steps p.tables e below (T96.setTop (mkF m 373 (la0_82 p0 p1 p2 p3 p4 b0_64 b0_70) [(.int (1 : Int32))])) t
              refine XS.goto X96.here hx rfl (pc0 := 373) (pc' := 377) rfl (hb hby at_373) (by decide) (by decide) ?_
              show Steps p.tables e below (T96.setTop (mkF m 377 (la0_82 p0 p1 p2 p3 p4 b0_64 b0_70) [(.int (1 : Int32))])) t
              exact k
            exact ⟨_, _, X96, e96, N96, fun t k => (own_k (f := fun (z : Int32) => mkF m 377 #[.val (.int p0), .val (.int p1), .val (.int p2), .val (.int p3), .val (.int p4), .val (.int (3 : Int32)), .val (.int (v0_11 p0 p1 p2 p3 p4)), .val (.int (v0_21 p0 p1 p2 p3 p4)), .val (.int (v0_32 p0 p1 p2 p3 p4)), .val (.int (v0_41 p0 p1 p2 p3 p4)), .val (.int (v0_50 p0 p1 p2 p3 p4)), .val (.int (v0_60 p0 p1 p2 p3 p4)), .val (.ref b0_64), .val (.ref b0_70), .val (.int (v0_11 p0 p1 p2 p3 p4)), .val (.int (v0_21 p0 p1 p2 p3 p4)), .val (.int (v0_32 p0 p1 p2 p3 p4)), .val (.int (v0_41 p0 p1 p2 p3 p4)), .val (.int (v0_50 p0 p1 p2 p3 p4)), .val (.int (v0_60 p0 p1 p2 p3 p4)), .val (.int (v0_217xx p0 p1 p2 p3 p4)), .val (.int (v0_233xx p0 p1 p2 p3 p4)), .val (.int (v0_242xx p0 p1 p2 p3 p4)), .val (.int (v0_257 p0 p1 p2 p3 p4)), .val (.int (v0_273 p0 p1 p2 p3 p4)), .val (.int (v0_289 p0 p1 p2 p3 p4)), .val (.int (v0_326xxx p0 p1 p2 p3 p4)), .unset, .unset, .unset, .unset] [(.int z)]) ((if_pos hc102).trans ((if_pos hc105).trans (if_pos hc107))) k)⟩
          · skip
            refine ORch.go (T' := T96) (g' := (mkF m 376 (la0_82 p0 p1 p2 p3 p4 b0_64 b0_70) [])) (fun t k => ?_) ?_
            · show Steps p.tables e below (T96.setTop (mkF m 369 (la0_82 p0 p1 p2 p3 p4 b0_64 b0_70) [(.int (v0_32 p0 p1 p2 p3 p4)), (.int (v0_32 p0 p1 p2 p3 p4))])) t
              refine XS.icmpYes X96.here hx rfl (pc0 := 369) (pc' := 376) rfl (hb hby at_369) rfl (feq (hc107)).2 (by decide) (by decide) ?_
              show Steps p.tables e below (T96.setTop (mkF m 376 (la0_82 p0 p1 p2 p3 p4 b0_64 b0_70) [])) t
              exact k
            refine ORch.go (T' := T96) (g' := (mkF m 377 (la0_82 p0 p1 p2 p3 p4 b0_64 b0_70) [(.int (0 : Int32))])) (fun t k => ?_) ?_
            · show Steps p.tables e below (T96.setTop (mkF m 376 (la0_82 p0 p1 p2 p3 p4 b0_64 b0_70) [])) t
              refine XS.iconst X96.here hx rfl (hb hby at_376) ?_
              show Steps p.tables e below (T96.setTop (mkF m 377 (la0_82 p0 p1 p2 p3 p4 b0_64 b0_70) [(.int (0 : Int32))])) t
              exact k
            exact ⟨_, _, X96, e96, N96, fun t k => (own_k (f := fun (z : Int32) => mkF m 377 #[.val (.int p0), .val (.int p1), .val (.int p2), .val (.int p3), .val (.int p4), .val (.int (3 : Int32)), .val (.int (v0_11 p0 p1 p2 p3 p4)), .val (.int (v0_21 p0 p1 p2 p3 p4)), .val (.int (v0_32 p0 p1 p2 p3 p4)), .val (.int (v0_41 p0 p1 p2 p3 p4)), .val (.int (v0_50 p0 p1 p2 p3 p4)), .val (.int (v0_60 p0 p1 p2 p3 p4)), .val (.ref b0_64), .val (.ref b0_70), .val (.int (v0_11 p0 p1 p2 p3 p4)), .val (.int (v0_21 p0 p1 p2 p3 p4)), .val (.int (v0_32 p0 p1 p2 p3 p4)), .val (.int (v0_41 p0 p1 p2 p3 p4)), .val (.int (v0_50 p0 p1 p2 p3 p4)), .val (.int (v0_60 p0 p1 p2 p3 p4)), .val (.int (v0_217xx p0 p1 p2 p3 p4)), .val (.int (v0_233xx p0 p1 p2 p3 p4)), .val (.int (v0_242xx p0 p1 p2 p3 p4)), .val (.int (v0_257 p0 p1 p2 p3 p4)), .val (.int (v0_273 p0 p1 p2 p3 p4)), .val (.int (v0_289 p0 p1 p2 p3 p4)), .val (.int (v0_326xxx p0 p1 p2 p3 p4)), .unset, .unset, .unset, .unset] [(.int z)]) ((if_pos hc102).trans ((if_pos hc105).trans (if_neg hc107))) k)⟩
        · skip
          refine ORch.go (T' := T96) (g' := (mkF m 376 (la0_82 p0 p1 p2 p3 p4 b0_64 b0_70) [])) (fun t k => ?_) ?_
          · show Steps p.tables e below (T96.setTop (mkF m 354 (la0_82 p0 p1 p2 p3 p4 b0_64 b0_70) [(.int (v0_21 p0 p1 p2 p3 p4)), (.int (v0_21 p0 p1 p2 p3 p4))])) t
            refine XS.icmpYes X96.here hx rfl (pc0 := 354) (pc' := 376) rfl (hb hby at_354) rfl (feq (hc105)).2 (by decide) (by decide) ?_
            show Steps p.tables e below (T96.setTop (mkF m 376 (la0_82 p0 p1 p2 p3 p4 b0_64 b0_70) [])) t
            exact k
          refine ORch.go (T' := T96) (g' := (mkF m 377 (la0_82 p0 p1 p2 p3 p4 b0_64 b0_70) [(.int (0 : Int32))])) (fun t k => ?_) ?_
          · show Steps p.tables e below (T96.setTop (mkF m 376 (la0_82 p0 p1 p2 p3 p4 b0_64 b0_70) [])) t
            refine XS.iconst X96.here hx rfl (hb hby at_376) ?_
            show Steps p.tables e below (T96.setTop (mkF m 377 (la0_82 p0 p1 p2 p3 p4 b0_64 b0_70) [(.int (0 : Int32))])) t
            exact k
          exact ⟨_, _, X96, e96, N96, fun t k => (own_k (f := fun (z : Int32) => mkF m 377 #[.val (.int p0), .val (.int p1), .val (.int p2), .val (.int p3), .val (.int p4), .val (.int (3 : Int32)), .val (.int (v0_11 p0 p1 p2 p3 p4)), .val (.int (v0_21 p0 p1 p2 p3 p4)), .val (.int (v0_32 p0 p1 p2 p3 p4)), .val (.int (v0_41 p0 p1 p2 p3 p4)), .val (.int (v0_50 p0 p1 p2 p3 p4)), .val (.int (v0_60 p0 p1 p2 p3 p4)), .val (.ref b0_64), .val (.ref b0_70), .val (.int (v0_11 p0 p1 p2 p3 p4)), .val (.int (v0_21 p0 p1 p2 p3 p4)), .val (.int (v0_32 p0 p1 p2 p3 p4)), .val (.int (v0_41 p0 p1 p2 p3 p4)), .val (.int (v0_50 p0 p1 p2 p3 p4)), .val (.int (v0_60 p0 p1 p2 p3 p4)), .val (.int (v0_217xx p0 p1 p2 p3 p4)), .val (.int (v0_233xx p0 p1 p2 p3 p4)), .val (.int (v0_242xx p0 p1 p2 p3 p4)), .val (.int (v0_257 p0 p1 p2 p3 p4)), .val (.int (v0_273 p0 p1 p2 p3 p4)), .val (.int (v0_289 p0 p1 p2 p3 p4)), .val (.int (v0_326xxx p0 p1 p2 p3 p4)), .unset, .unset, .unset, .unset] [(.int z)]) ((if_pos hc102).trans (if_neg hc105)) k)⟩
      · skip
        refine ORch.go (T' := T96) (g' := (mkF m 376 (la0_82 p0 p1 p2 p3 p4 b0_64 b0_70) [])) (fun t k => ?_) ?_
        · show Steps p.tables e below (T96.setTop (mkF m 339 (la0_82 p0 p1 p2 p3 p4 b0_64 b0_70) [(.int (v0_11 p0 p1 p2 p3 p4)), (.int (v0_11 p0 p1 p2 p3 p4))])) t
          refine XS.icmpYes X96.here hx rfl (pc0 := 339) (pc' := 376) rfl (hb hby at_339) rfl (feq (hc102)).2 (by decide) (by decide) ?_
          show Steps p.tables e below (T96.setTop (mkF m 376 (la0_82 p0 p1 p2 p3 p4 b0_64 b0_70) [])) t
          exact k
        refine ORch.go (T' := T96) (g' := (mkF m 377 (la0_82 p0 p1 p2 p3 p4 b0_64 b0_70) [(.int (0 : Int32))])) (fun t k => ?_) ?_
        · show Steps p.tables e below (T96.setTop (mkF m 376 (la0_82 p0 p1 p2 p3 p4 b0_64 b0_70) [])) t
          refine XS.iconst X96.here hx rfl (hb hby at_376) ?_
          show Steps p.tables e below (T96.setTop (mkF m 377 (la0_82 p0 p1 p2 p3 p4 b0_64 b0_70) [(.int (0 : Int32))])) t
          exact k
        exact ⟨_, _, X96, e96, N96, fun t k => (own_k (f := fun (z : Int32) => mkF m 377 #[.val (.int p0), .val (.int p1), .val (.int p2), .val (.int p3), .val (.int p4), .val (.int (3 : Int32)), .val (.int (v0_11 p0 p1 p2 p3 p4)), .val (.int (v0_21 p0 p1 p2 p3 p4)), .val (.int (v0_32 p0 p1 p2 p3 p4)), .val (.int (v0_41 p0 p1 p2 p3 p4)), .val (.int (v0_50 p0 p1 p2 p3 p4)), .val (.int (v0_60 p0 p1 p2 p3 p4)), .val (.ref b0_64), .val (.ref b0_70), .val (.int (v0_11 p0 p1 p2 p3 p4)), .val (.int (v0_21 p0 p1 p2 p3 p4)), .val (.int (v0_32 p0 p1 p2 p3 p4)), .val (.int (v0_41 p0 p1 p2 p3 p4)), .val (.int (v0_50 p0 p1 p2 p3 p4)), .val (.int (v0_60 p0 p1 p2 p3 p4)), .val (.int (v0_217xx p0 p1 p2 p3 p4)), .val (.int (v0_233xx p0 p1 p2 p3 p4)), .val (.int (v0_242xx p0 p1 p2 p3 p4)), .val (.int (v0_257 p0 p1 p2 p3 p4)), .val (.int (v0_273 p0 p1 p2 p3 p4)), .val (.int (v0_289 p0 p1 p2 p3 p4)), .val (.int (v0_326xxx p0 p1 p2 p3 p4)), .unset, .unset, .unset, .unset] [(.int z)]) (if_neg hc102) k)⟩
    refine OEnd.go (g' := (mkF m 377 (la0_82 p0 p1 p2 p3 p4 b0_64 b0_70) [(.int (if (v0_11 p0 p1 p2 p3 p4) = (v0_11 p0 p1 p2 p3 p4) then (if (v0_21 p0 p1 p2 p3 p4) = (v0_21 p0 p1 p2 p3 p4) then (if (v0_32 p0 p1 p2 p3 p4) = (v0_32 p0 p1 p2 p3 p4) then (1 : Int32) else (0 : Int32)) else (0 : Int32)) else (0 : Int32)))])) st103 ?_
    refine OEnd.go (T' := T103) (g' := (mkF m 401 (la0_84 p0 p1 p2 p3 p4 b0_64 b0_70) [(.int (v0_217xx p0 p1 p2 p3 p4)), (.int ((v0_233xx p0 p1 p2 p3 p4) + (1 : Int32)))])) (fun t k => ?_) ?_
    · show Steps p.tables e below (T103.setTop (mkF m 377 (la0_82 p0 p1 p2 p3 p4 b0_64 b0_70) [(.int (if (v0_11 p0 p1 p2 p3 p4) = (v0_11 p0 p1 p2 p3 p4) then (if (v0_21 p0 p1 p2 p3 p4) = (v0_21 p0 p1 p2 p3 p4) then (if (v0_32 p0 p1 p2 p3 p4) = (v0_32 p0 p1 p2 p3 p4) then (1 : Int32) else (0 : Int32)) else (0 : Int32)) else (0 : Int32)))])) t
      refine XS.istore X103.here hx rfl (hb hby at_377) rfl (l' := (la0_83 p0 p1 p2 p3 p4 b0_64 b0_70)) rfl ?_
      show Steps p.tables e below (T103.setTop (mkF m 379 (la0_83 p0 p1 p2 p3 p4 b0_64 b0_70) [])) t
      refine XS.iload X103.here hx rfl (hb hby at_379) rfl ?_
      show Steps p.tables e below (T103.setTop (mkF m 381 (la0_83 p0 p1 p2 p3 p4 b0_64 b0_70) [(.int (v0_257 p0 p1 p2 p3 p4))])) t
      refine XS.iload X103.here hx rfl (hb hby at_381) rfl ?_
      show Steps p.tables e below (T103.setTop (mkF m 383 (la0_83 p0 p1 p2 p3 p4 b0_64 b0_70) [(.int (v0_11 p0 p1 p2 p3 p4)), (.int (v0_257 p0 p1 p2 p3 p4))])) t
      refine XS.iload X103.here hx rfl (hb hby at_383) rfl ?_
      show Steps p.tables e below (T103.setTop (mkF m 385 (la0_83 p0 p1 p2 p3 p4 b0_64 b0_70) [(.int (v0_273 p0 p1 p2 p3 p4)), (.int (v0_11 p0 p1 p2 p3 p4)), (.int (v0_257 p0 p1 p2 p3 p4))])) t
      refine XS.iload X103.here hx rfl (hb hby at_385) rfl ?_
      show Steps p.tables e below (T103.setTop (mkF m 387 (la0_83 p0 p1 p2 p3 p4 b0_64 b0_70) [(.int (v0_21 p0 p1 p2 p3 p4)), (.int (v0_273 p0 p1 p2 p3 p4)), (.int (v0_11 p0 p1 p2 p3 p4)), (.int (v0_257 p0 p1 p2 p3 p4))])) t
      refine XS.iload X103.here hx rfl (hb hby at_387) rfl ?_
      show Steps p.tables e below (T103.setTop (mkF m 389 (la0_83 p0 p1 p2 p3 p4 b0_64 b0_70) [(.int (v0_289 p0 p1 p2 p3 p4)), (.int (v0_21 p0 p1 p2 p3 p4)), (.int (v0_273 p0 p1 p2 p3 p4)), (.int (v0_11 p0 p1 p2 p3 p4)), (.int (v0_257 p0 p1 p2 p3 p4))])) t
      refine XS.imul X103.here hx rfl (hb hby at_389) rfl ?_
      show Steps p.tables e below (T103.setTop (mkF m 390 (la0_83 p0 p1 p2 p3 p4 b0_64 b0_70) [(.int ((v0_21 p0 p1 p2 p3 p4) * (v0_289 p0 p1 p2 p3 p4))), (.int (v0_273 p0 p1 p2 p3 p4)), (.int (v0_11 p0 p1 p2 p3 p4)), (.int (v0_257 p0 p1 p2 p3 p4))])) t
      refine XS.iadd X103.here hx rfl (hb hby at_390) rfl ?_
      show Steps p.tables e below (T103.setTop (mkF m 391 (la0_83 p0 p1 p2 p3 p4 b0_64 b0_70) [(.int ((v0_273 p0 p1 p2 p3 p4) + ((v0_21 p0 p1 p2 p3 p4) * (v0_289 p0 p1 p2 p3 p4)))), (.int (v0_11 p0 p1 p2 p3 p4)), (.int (v0_257 p0 p1 p2 p3 p4))])) t
      refine XS.imul X103.here hx rfl (hb hby at_391) rfl ?_
      show Steps p.tables e below (T103.setTop (mkF m 392 (la0_83 p0 p1 p2 p3 p4 b0_64 b0_70) [(.int ((v0_11 p0 p1 p2 p3 p4) * ((v0_273 p0 p1 p2 p3 p4) + ((v0_21 p0 p1 p2 p3 p4) * (v0_289 p0 p1 p2 p3 p4))))), (.int (v0_257 p0 p1 p2 p3 p4))])) t
      refine XS.iadd X103.here hx rfl (hb hby at_392) rfl ?_
      show Steps p.tables e below (T103.setTop (mkF m 393 (la0_83 p0 p1 p2 p3 p4 b0_64 b0_70) [(.int ((v0_257 p0 p1 p2 p3 p4) + ((v0_11 p0 p1 p2 p3 p4) * ((v0_273 p0 p1 p2 p3 p4) + ((v0_21 p0 p1 p2 p3 p4) * (v0_289 p0 p1 p2 p3 p4))))))])) t
      refine XS.istore X103.here hx rfl (hb hby at_393) rfl (l' := (la0_84 p0 p1 p2 p3 p4 b0_64 b0_70)) rfl ?_
      show Steps p.tables e below (T103.setTop (mkF m 395 (la0_84 p0 p1 p2 p3 p4 b0_64 b0_70) [])) t
      refine XS.iload X103.here hx rfl (hb hby at_395) rfl ?_
      show Steps p.tables e below (T103.setTop (mkF m 397 (la0_84 p0 p1 p2 p3 p4 b0_64 b0_70) [(.int (v0_233xx p0 p1 p2 p3 p4))])) t
      refine XS.iconst X103.here hx rfl (hb hby at_397) ?_
      show Steps p.tables e below (T103.setTop (mkF m 398 (la0_84 p0 p1 p2 p3 p4 b0_64 b0_70) [(.int (1 : Int32)), (.int (v0_233xx p0 p1 p2 p3 p4))])) t
      refine XS.iadd X103.here hx rfl (hb hby at_398) rfl ?_
      show Steps p.tables e below (T103.setTop (mkF m 399 (la0_84 p0 p1 p2 p3 p4 b0_64 b0_70) [(.int ((v0_233xx p0 p1 p2 p3 p4) + (1 : Int32)))])) t
      refine XS.iload X103.here hx rfl (hb hby at_399) rfl ?_
      show Steps p.tables e below (T103.setTop (mkF m 401 (la0_84 p0 p1 p2 p3 p4 b0_64 b0_70) [(.int (v0_217xx p0 p1 p2 p3 p4)), (.int ((v0_233xx p0 p1 p2 p3 p4) + (1 : Int32)))])) t
      exact k
    refine OEnd.go (T' := T103) (g' := (mkF m 409 (la0_84 p0 p1 p2 p3 p4 b0_64 b0_70) [(.int (if ((v0_233xx p0 p1 p2 p3 p4) + (1 : Int32)) = (v0_217xx p0 p1 p2 p3 p4) then (1 : Int32) else (0 : Int32)))])) (fun t k => ?_) ?_
    · show Steps p.tables e below (T103.setTop (mkF m 401 (la0_84 p0 p1 p2 p3 p4 b0_64 b0_70) [(.int (v0_217xx p0 p1 p2 p3 p4)), (.int ((v0_233xx p0 p1 p2 p3 p4) + (1 : Int32)))])) t
      by_cases hc108 : ((v0_233xx p0 p1 p2 p3 p4) + (1 : Int32)) = (v0_217xx p0 p1 p2 p3 p4)
      · skip
        refine XS.icmpNo X103.here hx rfl (hb hby at_401) rfl (teq (hc108)).2 ?_
        show Steps p.tables e below (T103.setTop (mkF m 404 (la0_84 p0 p1 p2 p3 p4 b0_64 b0_70) [])) t
        refine SGo.go (T' := T103) (g' := (mkF m 409 (la0_84 p0 p1 p2 p3 p4 b0_64 b0_70) [(.int (1 : Int32))])) (fun t k => ?_) ?_
        · show Steps p.tables e below (T103.setTop (mkF m 404 (la0_84 p0 p1 p2 p3 p4 b0_64 b0_70) [])) t
          refine XS.iconst X103.here hx rfl (hb hby at_404) ?_
          show Steps p.tables e below (T103.setTop (mkF m 405 (la0_84 p0 p1 p2 p3 p4 b0_64 b0_70) [(.int (1 : Int32))])) t
          refine XS.goto X103.here hx rfl (pc0 := 405) (pc' := 409) rfl (hb hby at_405) (by decide) (by decide) ?_
          show Steps p.tables e below (T103.setTop (mkF m 409 (la0_84 p0 p1 p2 p3 p4 b0_64 b0_70) [(.int (1 : Int32))])) t
          exact k
        exact (own_k (f := fun (z : Int32) => mkF m 409 #[.val (.int p0), .val (.int p1), .val (.int p2), .val (.int p3), .val (.int p4), .val (.int (3 : Int32)), .val (.int (v0_11 p0 p1 p2 p3 p4)), .val (.int (v0_21 p0 p1 p2 p3 p4)), .val (.int (v0_32 p0 p1 p2 p3 p4)), .val (.int (v0_41 p0 p1 p2 p3 p4)), .val (.int (v0_50 p0 p1 p2 p3 p4)), .val (.int (v0_60 p0 p1 p2 p3 p4)), .val (.ref b0_64), .val (.ref b0_70), .val (.int (v0_11 p0 p1 p2 p3 p4)), .val (.int (v0_21 p0 p1 p2 p3 p4)), .val (.int (v0_32 p0 p1 p2 p3 p4)), .val (.int (v0_41 p0 p1 p2 p3 p4)), .val (.int (v0_50 p0 p1 p2 p3 p4)), .val (.int (v0_60 p0 p1 p2 p3 p4)), .val (.int (v0_217xx p0 p1 p2 p3 p4)), .val (.int (v0_233xx p0 p1 p2 p3 p4)), .val (.int (v0_242xx p0 p1 p2 p3 p4)), .val (.int (v0_257 p0 p1 p2 p3 p4)), .val (.int (v0_273 p0 p1 p2 p3 p4)), .val (.int (v0_289 p0 p1 p2 p3 p4)), .val (.int (v0_326xxx p0 p1 p2 p3 p4)), .val (.int (v0_377xx p0 p1 p2 p3 p4)), .val (.int (v0_393xx p0 p1 p2 p3 p4)), .unset, .unset] [(.int z)]) (if_pos hc108) k)
      · skip
        refine XS.icmpYes X103.here hx rfl (pc0 := 401) (pc' := 408) rfl (hb hby at_401) rfl (feq (hc108)).2 (by decide) (by decide) ?_
        show Steps p.tables e below (T103.setTop (mkF m 408 (la0_84 p0 p1 p2 p3 p4 b0_64 b0_70) [])) t
        refine SGo.go (T' := T103) (g' := (mkF m 409 (la0_84 p0 p1 p2 p3 p4 b0_64 b0_70) [(.int (0 : Int32))])) (fun t k => ?_) ?_
        · show Steps p.tables e below (T103.setTop (mkF m 408 (la0_84 p0 p1 p2 p3 p4 b0_64 b0_70) [])) t
          refine XS.iconst X103.here hx rfl (hb hby at_408) ?_
          show Steps p.tables e below (T103.setTop (mkF m 409 (la0_84 p0 p1 p2 p3 p4 b0_64 b0_70) [(.int (0 : Int32))])) t
          exact k
        exact (own_k (f := fun (z : Int32) => mkF m 409 #[.val (.int p0), .val (.int p1), .val (.int p2), .val (.int p3), .val (.int p4), .val (.int (3 : Int32)), .val (.int (v0_11 p0 p1 p2 p3 p4)), .val (.int (v0_21 p0 p1 p2 p3 p4)), .val (.int (v0_32 p0 p1 p2 p3 p4)), .val (.int (v0_41 p0 p1 p2 p3 p4)), .val (.int (v0_50 p0 p1 p2 p3 p4)), .val (.int (v0_60 p0 p1 p2 p3 p4)), .val (.ref b0_64), .val (.ref b0_70), .val (.int (v0_11 p0 p1 p2 p3 p4)), .val (.int (v0_21 p0 p1 p2 p3 p4)), .val (.int (v0_32 p0 p1 p2 p3 p4)), .val (.int (v0_41 p0 p1 p2 p3 p4)), .val (.int (v0_50 p0 p1 p2 p3 p4)), .val (.int (v0_60 p0 p1 p2 p3 p4)), .val (.int (v0_217xx p0 p1 p2 p3 p4)), .val (.int (v0_233xx p0 p1 p2 p3 p4)), .val (.int (v0_242xx p0 p1 p2 p3 p4)), .val (.int (v0_257 p0 p1 p2 p3 p4)), .val (.int (v0_273 p0 p1 p2 p3 p4)), .val (.int (v0_289 p0 p1 p2 p3 p4)), .val (.int (v0_326xxx p0 p1 p2 p3 p4)), .val (.int (v0_377xx p0 p1 p2 p3 p4)), .val (.int (v0_393xx p0 p1 p2 p3 p4)), .unset, .unset] [(.int z)]) (if_neg hc108) k)
    refine OEnd.go (T' := T103) (g' := (mkF m 413 (la0_85 p0 p1 p2 p3 p4 b0_64 b0_70) [(.int (v0_409xx p0 p1 p2 p3 p4))])) (fun t k => ?_) ?_
    · show Steps p.tables e below (T103.setTop (mkF m 409 (la0_84 p0 p1 p2 p3 p4 b0_64 b0_70) [(.int (if ((v0_233xx p0 p1 p2 p3 p4) + (1 : Int32)) = (v0_217xx p0 p1 p2 p3 p4) then (1 : Int32) else (0 : Int32)))])) t
      refine XS.istore X103.here hx rfl (hb hby at_409) rfl (l' := (la0_85 p0 p1 p2 p3 p4 b0_64 b0_70)) rfl ?_
      show Steps p.tables e below (T103.setTop (mkF m 411 (la0_85 p0 p1 p2 p3 p4 b0_64 b0_70) [])) t
      refine XS.iload X103.here hx rfl (hb hby at_411) rfl ?_
      show Steps p.tables e below (T103.setTop (mkF m 413 (la0_85 p0 p1 p2 p3 p4 b0_64 b0_70) [(.int (v0_409xx p0 p1 p2 p3 p4))])) t
      exact k
    refine OEnd.go (T' := T103) (g' := (mkF m 424 (la0_85 p0 p1 p2 p3 p4 b0_64 b0_70) [(.int (if (v0_409xx p0 p1 p2 p3 p4) = (0 : Int32) then ((v0_233xx p0 p1 p2 p3 p4) + (1 : Int32)) else (0 : Int32)))])) (fun t k => ?_) ?_
    · show Steps p.tables e below (T103.setTop (mkF m 413 (la0_85 p0 p1 p2 p3 p4 b0_64 b0_70) [(.int (v0_409xx p0 p1 p2 p3 p4))])) t
      by_cases hc109 : (v0_409xx p0 p1 p2 p3 p4) = (0 : Int32)
      · skip
        refine XS.ifYes X103.here hx rfl (pc0 := 413) (pc' := 420) rfl (hb hby at_413) rfl ((if0 _ _).trans (teq (hc109)).1) (by decide) (by decide) ?_
        show Steps p.tables e below (T103.setTop (mkF m 420 (la0_85 p0 p1 p2 p3 p4 b0_64 b0_70) [])) t
        refine SGo.go (T' := T103) (g' := (mkF m 424 (la0_85 p0 p1 p2 p3 p4 b0_64 b0_70) [(.int ((v0_233xx p0 p1 p2 p3 p4) + (1 : Int32)))])) (fun t k => ?_) ?_
        · show Steps p.tables e below (T103.setTop (mkF m 420 (la0_85 p0 p1 p2 p3 p4 b0_64 b0_70) [])) t
          refine XS.iload X103.here hx rfl (hb hby at_420) rfl ?_
          show Steps p.tables e below (T103.setTop (mkF m 422 (la0_85 p0 p1 p2 p3 p4 b0_64 b0_70) [(.int (v0_233xx p0 p1 p2 p3 p4))])) t
          refine XS.iconst X103.here hx rfl (hb hby at_422) ?_
          show Steps p.tables e below (T103.setTop (mkF m 423 (la0_85 p0 p1 p2 p3 p4 b0_64 b0_70) [(.int (1 : Int32)), (.int (v0_233xx p0 p1 p2 p3 p4))])) t
          refine XS.iadd X103.here hx rfl (hb hby at_423) rfl ?_
          show Steps p.tables e below (T103.setTop (mkF m 424 (la0_85 p0 p1 p2 p3 p4 b0_64 b0_70) [(.int ((v0_233xx p0 p1 p2 p3 p4) + (1 : Int32)))])) t
          exact k
        exact (own_k (f := fun (z : Int32) => mkF m 424 #[.val (.int p0), .val (.int p1), .val (.int p2), .val (.int p3), .val (.int p4), .val (.int (3 : Int32)), .val (.int (v0_11 p0 p1 p2 p3 p4)), .val (.int (v0_21 p0 p1 p2 p3 p4)), .val (.int (v0_32 p0 p1 p2 p3 p4)), .val (.int (v0_41 p0 p1 p2 p3 p4)), .val (.int (v0_50 p0 p1 p2 p3 p4)), .val (.int (v0_60 p0 p1 p2 p3 p4)), .val (.ref b0_64), .val (.ref b0_70), .val (.int (v0_11 p0 p1 p2 p3 p4)), .val (.int (v0_21 p0 p1 p2 p3 p4)), .val (.int (v0_32 p0 p1 p2 p3 p4)), .val (.int (v0_41 p0 p1 p2 p3 p4)), .val (.int (v0_50 p0 p1 p2 p3 p4)), .val (.int (v0_60 p0 p1 p2 p3 p4)), .val (.int (v0_217xx p0 p1 p2 p3 p4)), .val (.int (v0_233xx p0 p1 p2 p3 p4)), .val (.int (v0_242xx p0 p1 p2 p3 p4)), .val (.int (v0_257 p0 p1 p2 p3 p4)), .val (.int (v0_273 p0 p1 p2 p3 p4)), .val (.int (v0_289 p0 p1 p2 p3 p4)), .val (.int (v0_326xxx p0 p1 p2 p3 p4)), .val (.int (v0_377xx p0 p1 p2 p3 p4)), .val (.int (v0_393xx p0 p1 p2 p3 p4)), .val (.int (v0_409xx p0 p1 p2 p3 p4)), .unset] [(.int z)]) (if_pos hc109) k)
      · skip
        refine XS.ifNo X103.here hx rfl (hb hby at_413) rfl ((if0 _ _).trans (feq (hc109)).1) ?_
        show Steps p.tables e below (T103.setTop (mkF m 416 (la0_85 p0 p1 p2 p3 p4 b0_64 b0_70) [])) t
        refine SGo.go (T' := T103) (g' := (mkF m 424 (la0_85 p0 p1 p2 p3 p4 b0_64 b0_70) [(.int (0 : Int32))])) (fun t k => ?_) ?_
        · show Steps p.tables e below (T103.setTop (mkF m 416 (la0_85 p0 p1 p2 p3 p4 b0_64 b0_70) [])) t
          refine XS.iconst X103.here hx rfl (hb hby at_416) ?_
          show Steps p.tables e below (T103.setTop (mkF m 417 (la0_85 p0 p1 p2 p3 p4 b0_64 b0_70) [(.int (0 : Int32))])) t
          refine XS.goto X103.here hx rfl (pc0 := 417) (pc' := 424) rfl (hb hby at_417) (by decide) (by decide) ?_
          show Steps p.tables e below (T103.setTop (mkF m 424 (la0_85 p0 p1 p2 p3 p4 b0_64 b0_70) [(.int (0 : Int32))])) t
          exact k
        exact (own_k (f := fun (z : Int32) => mkF m 424 #[.val (.int p0), .val (.int p1), .val (.int p2), .val (.int p3), .val (.int p4), .val (.int (3 : Int32)), .val (.int (v0_11 p0 p1 p2 p3 p4)), .val (.int (v0_21 p0 p1 p2 p3 p4)), .val (.int (v0_32 p0 p1 p2 p3 p4)), .val (.int (v0_41 p0 p1 p2 p3 p4)), .val (.int (v0_50 p0 p1 p2 p3 p4)), .val (.int (v0_60 p0 p1 p2 p3 p4)), .val (.ref b0_64), .val (.ref b0_70), .val (.int (v0_11 p0 p1 p2 p3 p4)), .val (.int (v0_21 p0 p1 p2 p3 p4)), .val (.int (v0_32 p0 p1 p2 p3 p4)), .val (.int (v0_41 p0 p1 p2 p3 p4)), .val (.int (v0_50 p0 p1 p2 p3 p4)), .val (.int (v0_60 p0 p1 p2 p3 p4)), .val (.int (v0_217xx p0 p1 p2 p3 p4)), .val (.int (v0_233xx p0 p1 p2 p3 p4)), .val (.int (v0_242xx p0 p1 p2 p3 p4)), .val (.int (v0_257 p0 p1 p2 p3 p4)), .val (.int (v0_273 p0 p1 p2 p3 p4)), .val (.int (v0_289 p0 p1 p2 p3 p4)), .val (.int (v0_326xxx p0 p1 p2 p3 p4)), .val (.int (v0_377xx p0 p1 p2 p3 p4)), .val (.int (v0_393xx p0 p1 p2 p3 p4)), .val (.int (v0_409xx p0 p1 p2 p3 p4)), .unset] [(.int z)]) (if_neg hc109) k)
    refine OEnd.go (T' := T103) (g' := (mkF m 428 (la0_86 p0 p1 p2 p3 p4 b0_64 b0_70) [(.int (v0_326xxx p0 p1 p2 p3 p4))])) (fun t k => ?_) ?_
    · show Steps p.tables e below (T103.setTop (mkF m 424 (la0_85 p0 p1 p2 p3 p4 b0_64 b0_70) [(.int (if (v0_409xx p0 p1 p2 p3 p4) = (0 : Int32) then ((v0_233xx p0 p1 p2 p3 p4) + (1 : Int32)) else (0 : Int32)))])) t
      refine XS.istore X103.here hx rfl (hb hby at_424) rfl (l' := (la0_86 p0 p1 p2 p3 p4 b0_64 b0_70)) rfl ?_
      show Steps p.tables e below (T103.setTop (mkF m 426 (la0_86 p0 p1 p2 p3 p4 b0_64 b0_70) [])) t
      refine XS.iload X103.here hx rfl (hb hby at_426) rfl ?_
      show Steps p.tables e below (T103.setTop (mkF m 428 (la0_86 p0 p1 p2 p3 p4 b0_64 b0_70) [(.int (v0_326xxx p0 p1 p2 p3 p4))])) t
      exact k
    refine OEnd.go (T' := T103) (g' := (mkF m 463 (la0_86 p0 p1 p2 p3 p4 b0_64 b0_70) [(.int (if (v0_326xxx p0 p1 p2 p3 p4) = (0 : Int32) then (0 : Int32) else (if (v0_377xx p0 p1 p2 p3 p4) = (0 : Int32) then (0 : Int32) else (if (v0_242xx p0 p1 p2 p3 p4) = (v0_448_s0xx p0 p1 p2 p3 p4) then (if (v0_393xx p0 p1 p2 p3 p4) = (v0_424xx p0 p1 p2 p3 p4) then (1 : Int32) else (0 : Int32)) else (0 : Int32)))))])) (fun t k => ?_) ?_
    · show Steps p.tables e below (T103.setTop (mkF m 428 (la0_86 p0 p1 p2 p3 p4 b0_64 b0_70) [(.int (v0_326xxx p0 p1 p2 p3 p4))])) t
      by_cases hc110 : (v0_326xxx p0 p1 p2 p3 p4) = (0 : Int32)
      · skip
        refine XS.ifYes X103.here hx rfl (pc0 := 428) (pc' := 462) rfl (hb hby at_428) rfl ((if0 _ _).trans (teq (hc110)).1) (by decide) (by decide) ?_
        show Steps p.tables e below (T103.setTop (mkF m 462 (la0_86 p0 p1 p2 p3 p4 b0_64 b0_70) [])) t
        refine SGo.go (T' := T103) (g' := (mkF m 463 (la0_86 p0 p1 p2 p3 p4 b0_64 b0_70) [(.int (0 : Int32))])) (fun t k => ?_) ?_
        · show Steps p.tables e below (T103.setTop (mkF m 462 (la0_86 p0 p1 p2 p3 p4 b0_64 b0_70) [])) t
          refine XS.iconst X103.here hx rfl (hb hby at_462) ?_
          show Steps p.tables e below (T103.setTop (mkF m 463 (la0_86 p0 p1 p2 p3 p4 b0_64 b0_70) [(.int (0 : Int32))])) t
          exact k
        exact (own_k (f := fun (z : Int32) => mkF m 463 #[.val (.int p0), .val (.int p1), .val (.int p2), .val (.int p3), .val (.int p4), .val (.int (3 : Int32)), .val (.int (v0_11 p0 p1 p2 p3 p4)), .val (.int (v0_21 p0 p1 p2 p3 p4)), .val (.int (v0_32 p0 p1 p2 p3 p4)), .val (.int (v0_41 p0 p1 p2 p3 p4)), .val (.int (v0_50 p0 p1 p2 p3 p4)), .val (.int (v0_60 p0 p1 p2 p3 p4)), .val (.ref b0_64), .val (.ref b0_70), .val (.int (v0_11 p0 p1 p2 p3 p4)), .val (.int (v0_21 p0 p1 p2 p3 p4)), .val (.int (v0_32 p0 p1 p2 p3 p4)), .val (.int (v0_41 p0 p1 p2 p3 p4)), .val (.int (v0_50 p0 p1 p2 p3 p4)), .val (.int (v0_60 p0 p1 p2 p3 p4)), .val (.int (v0_217xx p0 p1 p2 p3 p4)), .val (.int (v0_233xx p0 p1 p2 p3 p4)), .val (.int (v0_242xx p0 p1 p2 p3 p4)), .val (.int (v0_257 p0 p1 p2 p3 p4)), .val (.int (v0_273 p0 p1 p2 p3 p4)), .val (.int (v0_289 p0 p1 p2 p3 p4)), .val (.int (v0_326xxx p0 p1 p2 p3 p4)), .val (.int (v0_377xx p0 p1 p2 p3 p4)), .val (.int (v0_393xx p0 p1 p2 p3 p4)), .val (.int (v0_409xx p0 p1 p2 p3 p4)), .val (.int (v0_424xx p0 p1 p2 p3 p4))] [(.int z)]) (if_pos hc110) k)
      · skip
        refine XS.ifNo X103.here hx rfl (hb hby at_428) rfl ((if0 _ _).trans (feq (hc110)).1) ?_
        show Steps p.tables e below (T103.setTop (mkF m 431 (la0_86 p0 p1 p2 p3 p4 b0_64 b0_70) [])) t
        refine SGo.go (T' := T103) (g' := (mkF m 433 (la0_86 p0 p1 p2 p3 p4 b0_64 b0_70) [(.int (v0_377xx p0 p1 p2 p3 p4))])) (fun t k => ?_) ?_
        · show Steps p.tables e below (T103.setTop (mkF m 431 (la0_86 p0 p1 p2 p3 p4 b0_64 b0_70) [])) t
          refine XS.iload X103.here hx rfl (hb hby at_431) rfl ?_
          show Steps p.tables e below (T103.setTop (mkF m 433 (la0_86 p0 p1 p2 p3 p4 b0_64 b0_70) [(.int (v0_377xx p0 p1 p2 p3 p4))])) t
          exact k
        by_cases hc111 : (v0_377xx p0 p1 p2 p3 p4) = (0 : Int32)
        · skip
          refine XS.ifYes X103.here hx rfl (pc0 := 433) (pc' := 462) rfl (hb hby at_433) rfl ((if0 _ _).trans (teq (hc111)).1) (by decide) (by decide) ?_
          show Steps p.tables e below (T103.setTop (mkF m 462 (la0_86 p0 p1 p2 p3 p4 b0_64 b0_70) [])) t
          refine SGo.go (T' := T103) (g' := (mkF m 463 (la0_86 p0 p1 p2 p3 p4 b0_64 b0_70) [(.int (0 : Int32))])) (fun t k => ?_) ?_
          · show Steps p.tables e below (T103.setTop (mkF m 462 (la0_86 p0 p1 p2 p3 p4 b0_64 b0_70) [])) t
            refine XS.iconst X103.here hx rfl (hb hby at_462) ?_
            show Steps p.tables e below (T103.setTop (mkF m 463 (la0_86 p0 p1 p2 p3 p4 b0_64 b0_70) [(.int (0 : Int32))])) t
            exact k
          exact (own_k (f := fun (z : Int32) => mkF m 463 #[.val (.int p0), .val (.int p1), .val (.int p2), .val (.int p3), .val (.int p4), .val (.int (3 : Int32)), .val (.int (v0_11 p0 p1 p2 p3 p4)), .val (.int (v0_21 p0 p1 p2 p3 p4)), .val (.int (v0_32 p0 p1 p2 p3 p4)), .val (.int (v0_41 p0 p1 p2 p3 p4)), .val (.int (v0_50 p0 p1 p2 p3 p4)), .val (.int (v0_60 p0 p1 p2 p3 p4)), .val (.ref b0_64), .val (.ref b0_70), .val (.int (v0_11 p0 p1 p2 p3 p4)), .val (.int (v0_21 p0 p1 p2 p3 p4)), .val (.int (v0_32 p0 p1 p2 p3 p4)), .val (.int (v0_41 p0 p1 p2 p3 p4)), .val (.int (v0_50 p0 p1 p2 p3 p4)), .val (.int (v0_60 p0 p1 p2 p3 p4)), .val (.int (v0_217xx p0 p1 p2 p3 p4)), .val (.int (v0_233xx p0 p1 p2 p3 p4)), .val (.int (v0_242xx p0 p1 p2 p3 p4)), .val (.int (v0_257 p0 p1 p2 p3 p4)), .val (.int (v0_273 p0 p1 p2 p3 p4)), .val (.int (v0_289 p0 p1 p2 p3 p4)), .val (.int (v0_326xxx p0 p1 p2 p3 p4)), .val (.int (v0_377xx p0 p1 p2 p3 p4)), .val (.int (v0_393xx p0 p1 p2 p3 p4)), .val (.int (v0_409xx p0 p1 p2 p3 p4)), .val (.int (v0_424xx p0 p1 p2 p3 p4))] [(.int z)]) ((if_neg hc110).trans (if_pos hc111)) k)
        · skip
          refine XS.ifNo X103.here hx rfl (hb hby at_433) rfl ((if0 _ _).trans (feq (hc111)).1) ?_
          show Steps p.tables e below (T103.setTop (mkF m 436 (la0_86 p0 p1 p2 p3 p4 b0_64 b0_70) [])) t
          refine SGo.go (T' := T103) (g' := (mkF m 440 (la0_86 p0 p1 p2 p3 p4 b0_64 b0_70) [(.int (v0_409xx p0 p1 p2 p3 p4)), (.int (v0_242xx p0 p1 p2 p3 p4))])) (fun t k => ?_) ?_
          · show Steps p.tables e below (T103.setTop (mkF m 436 (la0_86 p0 p1 p2 p3 p4 b0_64 b0_70) [])) t
            refine XS.iload X103.here hx rfl (hb hby at_436) rfl ?_
            show Steps p.tables e below (T103.setTop (mkF m 438 (la0_86 p0 p1 p2 p3 p4 b0_64 b0_70) [(.int (v0_242xx p0 p1 p2 p3 p4))])) t
            refine XS.iload X103.here hx rfl (hb hby at_438) rfl ?_
            show Steps p.tables e below (T103.setTop (mkF m 440 (la0_86 p0 p1 p2 p3 p4 b0_64 b0_70) [(.int (v0_409xx p0 p1 p2 p3 p4)), (.int (v0_242xx p0 p1 p2 p3 p4))])) t
            exact k
          refine SGo.go (T' := T103) (g' := (mkF m 448 (la0_86 p0 p1 p2 p3 p4 b0_64 b0_70) [(.int (if (v0_409xx p0 p1 p2 p3 p4) = (0 : Int32) then (1 : Int32) else (0 : Int32))), (.int (v0_242xx p0 p1 p2 p3 p4))])) (fun t k => ?_) ?_
          · show Steps p.tables e below (T103.setTop (mkF m 440 (la0_86 p0 p1 p2 p3 p4 b0_64 b0_70) [(.int (v0_409xx p0 p1 p2 p3 p4)), (.int (v0_242xx p0 p1 p2 p3 p4))])) t
            by_cases hc112 : (v0_409xx p0 p1 p2 p3 p4) = (0 : Int32)
            · skip
              refine XS.ifNo X103.here hx rfl (hb hby at_440) rfl ((if0 _ _).trans (teq (hc112)).2) ?_
              show Steps p.tables e below (T103.setTop (mkF m 443 (la0_86 p0 p1 p2 p3 p4 b0_64 b0_70) [(.int (v0_242xx p0 p1 p2 p3 p4))])) t
              refine SGo.go (T' := T103) (g' := (mkF m 448 (la0_86 p0 p1 p2 p3 p4 b0_64 b0_70) [(.int (1 : Int32)), (.int (v0_242xx p0 p1 p2 p3 p4))])) (fun t k => ?_) ?_
              · show Steps p.tables e below (T103.setTop (mkF m 443 (la0_86 p0 p1 p2 p3 p4 b0_64 b0_70) [(.int (v0_242xx p0 p1 p2 p3 p4))])) t
                refine XS.iconst X103.here hx rfl (hb hby at_443) ?_
                show Steps p.tables e below (T103.setTop (mkF m 444 (la0_86 p0 p1 p2 p3 p4 b0_64 b0_70) [(.int (1 : Int32)), (.int (v0_242xx p0 p1 p2 p3 p4))])) t
                refine XS.goto X103.here hx rfl (pc0 := 444) (pc' := 448) rfl (hb hby at_444) (by decide) (by decide) ?_
                show Steps p.tables e below (T103.setTop (mkF m 448 (la0_86 p0 p1 p2 p3 p4 b0_64 b0_70) [(.int (1 : Int32)), (.int (v0_242xx p0 p1 p2 p3 p4))])) t
                exact k
              exact (own_k (f := fun (z : Int32) => mkF m 448 #[.val (.int p0), .val (.int p1), .val (.int p2), .val (.int p3), .val (.int p4), .val (.int (3 : Int32)), .val (.int (v0_11 p0 p1 p2 p3 p4)), .val (.int (v0_21 p0 p1 p2 p3 p4)), .val (.int (v0_32 p0 p1 p2 p3 p4)), .val (.int (v0_41 p0 p1 p2 p3 p4)), .val (.int (v0_50 p0 p1 p2 p3 p4)), .val (.int (v0_60 p0 p1 p2 p3 p4)), .val (.ref b0_64), .val (.ref b0_70), .val (.int (v0_11 p0 p1 p2 p3 p4)), .val (.int (v0_21 p0 p1 p2 p3 p4)), .val (.int (v0_32 p0 p1 p2 p3 p4)), .val (.int (v0_41 p0 p1 p2 p3 p4)), .val (.int (v0_50 p0 p1 p2 p3 p4)), .val (.int (v0_60 p0 p1 p2 p3 p4)), .val (.int (v0_217xx p0 p1 p2 p3 p4)), .val (.int (v0_233xx p0 p1 p2 p3 p4)), .val (.int (v0_242xx p0 p1 p2 p3 p4)), .val (.int (v0_257 p0 p1 p2 p3 p4)), .val (.int (v0_273 p0 p1 p2 p3 p4)), .val (.int (v0_289 p0 p1 p2 p3 p4)), .val (.int (v0_326xxx p0 p1 p2 p3 p4)), .val (.int (v0_377xx p0 p1 p2 p3 p4)), .val (.int (v0_393xx p0 p1 p2 p3 p4)), .val (.int (v0_409xx p0 p1 p2 p3 p4)), .val (.int (v0_424xx p0 p1 p2 p3 p4))] [(.int z), (.int (v0_242xx p0 p1 p2 p3 p4))]) (if_pos hc112) k)
            · skip
              refine XS.ifYes X103.here hx rfl (pc0 := 440) (pc' := 447) rfl (hb hby at_440) rfl ((if0 _ _).trans (feq (hc112)).2) (by decide) (by decide) ?_
              show Steps p.tables e below (T103.setTop (mkF m 447 (la0_86 p0 p1 p2 p3 p4 b0_64 b0_70) [(.int (v0_242xx p0 p1 p2 p3 p4))])) t
              refine SGo.go (T' := T103) (g' := (mkF m 448 (la0_86 p0 p1 p2 p3 p4 b0_64 b0_70) [(.int (0 : Int32)), (.int (v0_242xx p0 p1 p2 p3 p4))])) (fun t k => ?_) ?_
              · show Steps p.tables e below (T103.setTop (mkF m 447 (la0_86 p0 p1 p2 p3 p4 b0_64 b0_70) [(.int (v0_242xx p0 p1 p2 p3 p4))])) t
                refine XS.iconst X103.here hx rfl (hb hby at_447) ?_
                show Steps p.tables e below (T103.setTop (mkF m 448 (la0_86 p0 p1 p2 p3 p4 b0_64 b0_70) [(.int (0 : Int32)), (.int (v0_242xx p0 p1 p2 p3 p4))])) t
                exact k
              exact (own_k (f := fun (z : Int32) => mkF m 448 #[.val (.int p0), .val (.int p1), .val (.int p2), .val (.int p3), .val (.int p4), .val (.int (3 : Int32)), .val (.int (v0_11 p0 p1 p2 p3 p4)), .val (.int (v0_21 p0 p1 p2 p3 p4)), .val (.int (v0_32 p0 p1 p2 p3 p4)), .val (.int (v0_41 p0 p1 p2 p3 p4)), .val (.int (v0_50 p0 p1 p2 p3 p4)), .val (.int (v0_60 p0 p1 p2 p3 p4)), .val (.ref b0_64), .val (.ref b0_70), .val (.int (v0_11 p0 p1 p2 p3 p4)), .val (.int (v0_21 p0 p1 p2 p3 p4)), .val (.int (v0_32 p0 p1 p2 p3 p4)), .val (.int (v0_41 p0 p1 p2 p3 p4)), .val (.int (v0_50 p0 p1 p2 p3 p4)), .val (.int (v0_60 p0 p1 p2 p3 p4)), .val (.int (v0_217xx p0 p1 p2 p3 p4)), .val (.int (v0_233xx p0 p1 p2 p3 p4)), .val (.int (v0_242xx p0 p1 p2 p3 p4)), .val (.int (v0_257 p0 p1 p2 p3 p4)), .val (.int (v0_273 p0 p1 p2 p3 p4)), .val (.int (v0_289 p0 p1 p2 p3 p4)), .val (.int (v0_326xxx p0 p1 p2 p3 p4)), .val (.int (v0_377xx p0 p1 p2 p3 p4)), .val (.int (v0_393xx p0 p1 p2 p3 p4)), .val (.int (v0_409xx p0 p1 p2 p3 p4)), .val (.int (v0_424xx p0 p1 p2 p3 p4))] [(.int z), (.int (v0_242xx p0 p1 p2 p3 p4))]) (if_neg hc112) k)
          by_cases hc113 : (v0_242xx p0 p1 p2 p3 p4) = (v0_448_s0xx p0 p1 p2 p3 p4)
          · skip
            refine XS.icmpNo X103.here hx rfl (hb hby at_448) rfl (teq (hc113)).2 ?_
            show Steps p.tables e below (T103.setTop (mkF m 451 (la0_86 p0 p1 p2 p3 p4 b0_64 b0_70) [])) t
            refine SGo.go (T' := T103) (g' := (mkF m 455 (la0_86 p0 p1 p2 p3 p4 b0_64 b0_70) [(.int (v0_424xx p0 p1 p2 p3 p4)), (.int (v0_393xx p0 p1 p2 p3 p4))])) (fun t k => ?_) ?_
            · show Steps p.tables e below (T103.setTop (mkF m 451 (la0_86 p0 p1 p2 p3 p4 b0_64 b0_70) [])) t
              refine XS.iload X103.here hx rfl (hb hby at_451) rfl ?_
              show Steps p.tables e below (T103.setTop (mkF m 453 (la0_86 p0 p1 p2 p3 p4 b0_64 b0_70) [(.int (v0_393xx p0 p1 p2 p3 p4))])) t
              refine XS.iload X103.here hx rfl (hb hby at_453) rfl ?_
              show Steps p.tables e below (T103.setTop (mkF m 455 (la0_86 p0 p1 p2 p3 p4 b0_64 b0_70) [(.int (v0_424xx p0 p1 p2 p3 p4)), (.int (v0_393xx p0 p1 p2 p3 p4))])) t
              exact k
            by_cases hc114 : (v0_393xx p0 p1 p2 p3 p4) = (v0_424xx p0 p1 p2 p3 p4)
            · skip
              refine XS.icmpNo X103.here hx rfl (hb hby at_455) rfl (teq (hc114)).2 ?_
              show Steps p.tables e below (T103.setTop (mkF m 458 (la0_86 p0 p1 p2 p3 p4 b0_64 b0_70) [])) t
              refine SGo.go (T' := T103) (g' := (mkF m 463 (la0_86 p0 p1 p2 p3 p4 b0_64 b0_70) [(.int (1 : Int32))])) (fun t k => ?_) ?_
              · show Steps p.tables e below (T103.setTop (mkF m 458 (la0_86 p0 p1 p2 p3 p4 b0_64 b0_70) [])) t
                refine XS.iconst X103.here hx rfl (hb hby at_458) ?_
                show Steps p.tables e below (T103.setTop (mkF m 459 (la0_86 p0 p1 p2 p3 p4 b0_64 b0_70) [(.int (1 : Int32))])) t
                refine XS.goto X103.here hx rfl (pc0 := 459) (pc' := 463) rfl (hb hby at_459) (by decide) (by decide) ?_
                show Steps p.tables e below (T103.setTop (mkF m 463 (la0_86 p0 p1 p2 p3 p4 b0_64 b0_70) [(.int (1 : Int32))])) t
                exact k
              exact (own_k (f := fun (z : Int32) => mkF m 463 #[.val (.int p0), .val (.int p1), .val (.int p2), .val (.int p3), .val (.int p4), .val (.int (3 : Int32)), .val (.int (v0_11 p0 p1 p2 p3 p4)), .val (.int (v0_21 p0 p1 p2 p3 p4)), .val (.int (v0_32 p0 p1 p2 p3 p4)), .val (.int (v0_41 p0 p1 p2 p3 p4)), .val (.int (v0_50 p0 p1 p2 p3 p4)), .val (.int (v0_60 p0 p1 p2 p3 p4)), .val (.ref b0_64), .val (.ref b0_70), .val (.int (v0_11 p0 p1 p2 p3 p4)), .val (.int (v0_21 p0 p1 p2 p3 p4)), .val (.int (v0_32 p0 p1 p2 p3 p4)), .val (.int (v0_41 p0 p1 p2 p3 p4)), .val (.int (v0_50 p0 p1 p2 p3 p4)), .val (.int (v0_60 p0 p1 p2 p3 p4)), .val (.int (v0_217xx p0 p1 p2 p3 p4)), .val (.int (v0_233xx p0 p1 p2 p3 p4)), .val (.int (v0_242xx p0 p1 p2 p3 p4)), .val (.int (v0_257 p0 p1 p2 p3 p4)), .val (.int (v0_273 p0 p1 p2 p3 p4)), .val (.int (v0_289 p0 p1 p2 p3 p4)), .val (.int (v0_326xxx p0 p1 p2 p3 p4)), .val (.int (v0_377xx p0 p1 p2 p3 p4)), .val (.int (v0_393xx p0 p1 p2 p3 p4)), .val (.int (v0_409xx p0 p1 p2 p3 p4)), .val (.int (v0_424xx p0 p1 p2 p3 p4))] [(.int z)]) ((if_neg hc110).trans ((if_neg hc111).trans ((if_pos hc113).trans (if_pos hc114)))) k)
            · skip
              refine XS.icmpYes X103.here hx rfl (pc0 := 455) (pc' := 462) rfl (hb hby at_455) rfl (feq (hc114)).2 (by decide) (by decide) ?_
              show Steps p.tables e below (T103.setTop (mkF m 462 (la0_86 p0 p1 p2 p3 p4 b0_64 b0_70) [])) t
              refine SGo.go (T' := T103) (g' := (mkF m 463 (la0_86 p0 p1 p2 p3 p4 b0_64 b0_70) [(.int (0 : Int32))])) (fun t k => ?_) ?_
              · show Steps p.tables e below (T103.setTop (mkF m 462 (la0_86 p0 p1 p2 p3 p4 b0_64 b0_70) [])) t
                refine XS.iconst X103.here hx rfl (hb hby at_462) ?_
                show Steps p.tables e below (T103.setTop (mkF m 463 (la0_86 p0 p1 p2 p3 p4 b0_64 b0_70) [(.int (0 : Int32))])) t
                exact k
              exact (own_k (f := fun (z : Int32) => mkF m 463 #[.val (.int p0), .val (.int p1), .val (.int p2), .val (.int p3), .val (.int p4), .val (.int (3 : Int32)), .val (.int (v0_11 p0 p1 p2 p3 p4)), .val (.int (v0_21 p0 p1 p2 p3 p4)), .val (.int (v0_32 p0 p1 p2 p3 p4)), .val (.int (v0_41 p0 p1 p2 p3 p4)), .val (.int (v0_50 p0 p1 p2 p3 p4)), .val (.int (v0_60 p0 p1 p2 p3 p4)), .val (.ref b0_64), .val (.ref b0_70), .val (.int (v0_11 p0 p1 p2 p3 p4)), .val (.int (v0_21 p0 p1 p2 p3 p4)), .val (.int (v0_32 p0 p1 p2 p3 p4)), .val (.int (v0_41 p0 p1 p2 p3 p4)), .val (.int (v0_50 p0 p1 p2 p3 p4)), .val (.int (v0_60 p0 p1 p2 p3 p4)), .val (.int (v0_217xx p0 p1 p2 p3 p4)), .val (.int (v0_233xx p0 p1 p2 p3 p4)), .val (.int (v0_242xx p0 p1 p2 p3 p4)), .val (.int (v0_257 p0 p1 p2 p3 p4)), .val (.int (v0_273 p0 p1 p2 p3 p4)), .val (.int (v0_289 p0 p1 p2 p3 p4)), .val (.int (v0_326xxx p0 p1 p2 p3 p4)), .val (.int (v0_377xx p0 p1 p2 p3 p4)), .val (.int (v0_393xx p0 p1 p2 p3 p4)), .val (.int (v0_409xx p0 p1 p2 p3 p4)), .val (.int (v0_424xx p0 p1 p2 p3 p4))] [(.int z)]) ((if_neg hc110).trans ((if_neg hc111).trans ((if_pos hc113).trans (if_neg hc114)))) k)
          · skip
            refine XS.icmpYes X103.here hx rfl (pc0 := 448) (pc' := 462) rfl (hb hby at_448) rfl (feq (hc113)).2 (by decide) (by decide) ?_
            show Steps p.tables e below (T103.setTop (mkF m 462 (la0_86 p0 p1 p2 p3 p4 b0_64 b0_70) [])) t
            refine SGo.go (T' := T103) (g' := (mkF m 463 (la0_86 p0 p1 p2 p3 p4 b0_64 b0_70) [(.int (0 : Int32))])) (fun t k => ?_) ?_
            · show Steps p.tables e below (T103.setTop (mkF m 462 (la0_86 p0 p1 p2 p3 p4 b0_64 b0_70) [])) t
              refine XS.iconst X103.here hx rfl (hb hby at_462) ?_
              show Steps p.tables e below (T103.setTop (mkF m 463 (la0_86 p0 p1 p2 p3 p4 b0_64 b0_70) [(.int (0 : Int32))])) t
              exact k
            exact (own_k (f := fun (z : Int32) => mkF m 463 #[.val (.int p0), .val (.int p1), .val (.int p2), .val (.int p3), .val (.int p4), .val (.int (3 : Int32)), .val (.int (v0_11 p0 p1 p2 p3 p4)), .val (.int (v0_21 p0 p1 p2 p3 p4)), .val (.int (v0_32 p0 p1 p2 p3 p4)), .val (.int (v0_41 p0 p1 p2 p3 p4)), .val (.int (v0_50 p0 p1 p2 p3 p4)), .val (.int (v0_60 p0 p1 p2 p3 p4)), .val (.ref b0_64), .val (.ref b0_70), .val (.int (v0_11 p0 p1 p2 p3 p4)), .val (.int (v0_21 p0 p1 p2 p3 p4)), .val (.int (v0_32 p0 p1 p2 p3 p4)), .val (.int (v0_41 p0 p1 p2 p3 p4)), .val (.int (v0_50 p0 p1 p2 p3 p4)), .val (.int (v0_60 p0 p1 p2 p3 p4)), .val (.int (v0_217xx p0 p1 p2 p3 p4)), .val (.int (v0_233xx p0 p1 p2 p3 p4)), .val (.int (v0_242xx p0 p1 p2 p3 p4)), .val (.int (v0_257 p0 p1 p2 p3 p4)), .val (.int (v0_273 p0 p1 p2 p3 p4)), .val (.int (v0_289 p0 p1 p2 p3 p4)), .val (.int (v0_326xxx p0 p1 p2 p3 p4)), .val (.int (v0_377xx p0 p1 p2 p3 p4)), .val (.int (v0_393xx p0 p1 p2 p3 p4)), .val (.int (v0_409xx p0 p1 p2 p3 p4)), .val (.int (v0_424xx p0 p1 p2 p3 p4))] [(.int z)]) ((if_neg hc110).trans ((if_neg hc111).trans (if_neg hc113))) k)
    exact OEnd.nar X103 hx (t := .boolean) Bd.returns (by simp) hlk (hb hby at_463) ⟨(congrArg (fun z => some (Value.int (nar .boolean z))) (own_plain_3 p0 p1 p2 p3 p4)), N103⟩ (by decide) (by decide)
set_option maxRecDepth 65536 in
set_option maxHeartbeats 40000000 in
theorem comes_1 {Post : Tables → Env → Array Value → State → Outcome → State → Prop} (hpost : ∀ tb e args s v u, (limb_1_1.after args s (.returned v) u = true ∧ limb_1_2.after args s (.returned v) u = true ∧ True) → FrameEnd s (.returned v) u (Jvm.fieldLocs frame_1_writes args s ++ Jvm.arrayLocs frame_1_arrays args s ++ Jvm.staticLocs frame_1_statics s) 16 128 → Post tb e args s (.returned v) u) :
    ArmFor flags0 classFile x code maxLocals ret World_1 tables_1 room_1 Calls_1 rest_1 Pre_1 Post := by
  intro l hfl _ _ p e ha hc hk s m args below hf hA hF happ hP
  obtain ⟨hcalls, hrest, hpre⟩ := hP
  obtain ⟨-, -, -, hnamed, -, -, -, hat⟩ := (Spec.applies_iff hf).mp happ
  obtain ⟨hg, hn⟩ := and_e (Cond.before_iff.mp (show (Jvm.Cond.and given_1 narrow_1).before args s = true from hpre))
  obtain ⟨c1, c2⟩ := and_e hg
  obtain ⟨c3, c4⟩ := and_e c2
  obtain ⟨c5, c6⟩ := and_e c4
  obtain ⟨c7, c8⟩ := and_e c6
  obtain ⟨c9, c10⟩ := and_e c8
  obtain ⟨w0, w1, w2, w3, w4, rfl⟩ : ∃ w0 w1 w2 w3 w4 : Value, args = #[w0, w1, w2, w3, w4] := by
    have hs : args.size = 5 := by simpa [Cond.value, given_1] using c1
    obtain ⟨L⟩ := args
    match L, hs with
    | [w0, w1, w2, w3, w4], _ => exact ⟨w0, w1, w2, w3, w4, rfl⟩
  have hw := fun d (hd : d ∈ tables_1) => atoms_spec (ws := Jvm.Cond.code x code maxLocals ret :: tables_1) hat d (List.mem_cons_of_mem _ hd)
  obtain ⟨i0, ei0⟩ := is_v c3
  obtain rfl : w0 = (.int i0) := Option.some.inj ei0
  obtain ⟨i1, ei1⟩ := is_v c5
  obtain rfl : w1 = (.int i1) := Option.some.inj ei1
  obtain ⟨i2, ei2⟩ := is_v c7
  obtain rfl : w2 = (.int i2) := Option.some.inj ei2
  obtain ⟨i3, ei3⟩ := is_v c9
  obtain rfl : w3 = (.int i3) := Option.some.inj ei3
  obtain ⟨i4, ei4⟩ := is_v c10
  obtain rfl : w4 = (.int i4) := Option.some.inj ei4
  obtain ⟨n, o, h1, h2, h3, _, L, rfl, ⟨rfl, N⟩, hq⟩ := rm0 l s _ hw tables_1 i0 i1 i2 i3 i4 s.heap s.heap.size (Nat.le_refl _)  p e ha hc hk s m _ below hf ((Spec.applies_iff_loose hf).mp happ).1 ⟨rfl, State.Warmed39.refl s, rfl⟩ trivial
  refine ⟨n, _, h1, h2, h3, hpost _ _ _ _ _ _ ⟨Cond.after_iff.mpr rfl, Cond.after_iff.mpr (eq_i res_at (Term.int_eval (1)) rfl), trivial⟩ ⟨hq.1, hq.2.1, (hq.2.2.sift fun y hy => Or.inr (N y hy)).mono (by decide) (by decide)⟩⟩
theorem main_1_1 : Claimed_1_1 := comes_1 fun _ _ _ _ _ _ h hF => ⟨h.1, hF⟩
theorem main_1_2 : Claimed_1_2 := comes_1 fun _ _ _ _ _ _ h hF => ⟨h.2.1, hF⟩
end Jvm.Pilot.@@N@@
namespace Jvm.Pilot.@@N@@
open Jvm Jvm.ClassFile Sem Op Lib Jvm.Free Jvm.Stand Jvm.Pilot.@@N@@.Jvm.D
/-! MADE BY PROGRAM (witnessworld.py) out of the Statement's table words and the real class files: 9 classes; the members and pool entries that the words name. The judged class is class 1, her method 2. -/
namespace start1
open Jvm.ClassFile
def u (s : String) : CpInfo := .utf8 (stringToUtf16 s)
/-- a pool by its gaps: so many unusable entries, then the entry; so many at the end -/
def gap : Nat → List CpInfo → List CpInfo
  | 0, r => r
  | n + 1, r => .unusable :: gap n r
def poolList (es : List (Nat × CpInfo)) (last : Nat) : List CpInfo := es.foldr (fun e r => gap e.1 (e.2 :: r)) (gap last [])
def pool (es : List (Nat × CpInfo)) (last : Nat) : Array CpInfo := ⟨poolList es last⟩
def fileOf (pool : Array CpInfo) (this : Nat) (attrs : Array Attribute := #[]) (ms : Array MethodInfo := #[]) (fl : Nat := 33) (sup : Nat := 0) (ifs : Array Nat := #[]) (fds : Array FieldInfo := #[]) : ClassFile where
  minorVersion := 0
  majorVersion := 65
  constantPool := pool
  accessFlags := fl
  thisClass := this
  superClass := sup
  interfaces := ifs
  fields := fds
  methods := ms
  attributes := attrs
def plain (name : String) (sup : Option ClassId) : Class where
  name := name
  kind := .ordinary
  loader := none
  accessFlags := 33
  super := sup
  interfaces := #[]
  cf := none
  fields := #[]
  methods := #[]
  instanceTypes := #[]
  staticTypes := #[]
  resolved := #[]
  callSites := []
  init := .initialized
  statics := none
  mirror := none

def pool0 : Array CpInfo := pool [(5, u "<init>"), (0, u "()V"), (1, .class_ 10), (1, u "java/lang/Object")] 113

def k0m0 : Method := { name := "<init>", desc := "()V", sig := { parameters := [], returnType := none }, accessFlags := 1, code := none }
/-- java/lang/Object -/
def k0 : Class := { plain "java/lang/Object" none with
  accessFlags := 33
  interfaces := #[]
  cf := some (fileOf pool0 8 #[] #[{ accessFlags := 1, nameIndex := 5, descriptorIndex := 6, attributes := #[] }] 33 0 #[] #[])
  fields := #[]
  methods := #[k0m0]
  instanceTypes := #[]
  staticTypes := #[]
  resolved := Array.replicate 124 none
  statics := none }

def pool1 : Array CpInfo := pool [(2, .class_ 4), (1, u "java/lang/Object"), (0, u "<init>"), (0, u "()V"), (0, .integer 2147483647), (0, .methodref 9 10), (0, .class_ 11), (0, .nameAndType 12 13), (0, u "com/example/assentor/assentor/check/Odometer"), (0, u "advance"), (0, u "([I[I)Z"), (0, .methodref 15 16), (0, .class_ 17), (0, .nameAndType 18 19), (0, u "com/example/assentor/assentor/check/OdometerAdvancePinLaw"), (0, u "inRange"), (0, u "(II)Z"), (3, u "law"), (0, u "(IIIII)Z")] 4

def k1m0 : Method := { name := "<init>", desc := "()V", sig := { parameters := [], returnType := none }, accessFlags := 1, code := none }
def k1c1 : Code := { maxStack := 2, maxLocals := 2, code := method_2_code, exceptionTable := #[], attributes := #[] }
def k1m1 : Method := { name := "inRange", desc := "(II)Z", sig := { parameters := [.int, .int], returnType := some .boolean }, accessFlags := 10, code := some k1c1 }
def k1c2 : Code := { maxStack := 5, maxLocals := 31, code := code, exceptionTable := #[], attributes := #[] }
def k1m2 : Method := { name := "law", desc := "(IIIII)Z", sig := { parameters := [.int, .int, .int, .int, .int], returnType := some .boolean }, accessFlags := 9, code := some k1c2 }
/-- com/example/assentor/assentor/check/OdometerAdvancePinLaw -/
def k1 : Class := { plain "com/example/assentor/assentor/check/OdometerAdvancePinLaw" (some 0) with
  accessFlags := 49
  interfaces := #[]
  cf := some (fileOf pool1 15 #[] #[{ accessFlags := 1, nameIndex := 5, descriptorIndex := 6, attributes := #[] }, { accessFlags := 10, nameIndex := 18, descriptorIndex := 19, attributes := #[] }, { accessFlags := 9, nameIndex := 23, descriptorIndex := 24, attributes := #[] }] 49 2 #[] #[])
  fields := #[]
  methods := #[k1m0, k1m1, k1m2]
  instanceTypes := #[]
  staticTypes := #[]
  resolved := Array.replicate 29 none
  statics := none }

def pool2 : Array CpInfo := pool [(2, .class_ 4), (1, u "java/lang/Object"), (0, u "<init>"), (0, u "()V"), (0, .class_ 8), (0, u "com/example/assentor/assentor/check/Odometer"), (2, u "advance"), (0, u "([I[I)Z")] 4

def k2m0 : Method := { name := "<init>", desc := "()V", sig := { parameters := [], returnType := none }, accessFlags := 2, code := none }
def k2c1 : Code := { maxStack := 4, maxLocals := 3, code := prog_15_method_2_code, exceptionTable := #[], attributes := #[] }
def k2m1 : Method := { name := "advance", desc := "([I[I)Z", sig := { parameters := [(.array .int), (.array .int)], returnType := some .boolean }, accessFlags := 8, code := some k2c1 }
/-- com/example/assentor/assentor/check/Odometer -/
def k2 : Class := { plain "com/example/assentor/assentor/check/Odometer" (some 0) with
  accessFlags := 48
  interfaces := #[]
  cf := some (fileOf pool2 7 #[] #[{ accessFlags := 2, nameIndex := 5, descriptorIndex := 6, attributes := #[] }, { accessFlags := 8, nameIndex := 11, descriptorIndex := 12, attributes := #[] }] 48 2 #[] #[])
  fields := #[]
  methods := #[k2m0, k2m1]
  instanceTypes := #[]
  staticTypes := #[]
  resolved := Array.replicate 17 none
  statics := none }

def pool3 : Array CpInfo := pool [(1, u "java/lang/Cloneable"), (0, .class_ 1), (0, u "java/lang/Object"), (0, .class_ 3)] 3

/-- java/lang/Cloneable -/
def k3 : Class := { plain "java/lang/Cloneable" (some 0) with
  accessFlags := 1537
  interfaces := #[]
  cf := some (fileOf pool3 2 #[] #[] 1537 4 #[] #[])
  fields := #[]
  methods := #[]
  instanceTypes := #[]
  staticTypes := #[]
  resolved := Array.replicate 8 none
  statics := none }

def pool4 : Array CpInfo := pool [(1, u "java/io/Serializable"), (0, .class_ 1), (0, u "java/lang/Object"), (0, .class_ 3)] 3

/-- java/io/Serializable -/
def k4 : Class := { plain "java/io/Serializable" (some 0) with
  accessFlags := 1537
  interfaces := #[]
  cf := some (fileOf pool4 2 #[] #[] 1537 4 #[] #[])
  fields := #[]
  methods := #[]
  instanceTypes := #[]
  staticTypes := #[]
  resolved := Array.replicate 8 none
  statics := none }

/-- the primitive byte -/
def k5 : Class := { plain "byte" none with kind := .primitive 'B', accessFlags := 0x411 }
/-- [B -/
def k6 : Class := { plain "[B" (some 0) with kind := .array 5 .byte, interfaces := #[3, 4], accessFlags := 1041 }

/-- the primitive int -/
def k7 : Class := { plain "int" none with kind := .primitive 'I', accessFlags := 0x411 }
/-- [I -/
def k8 : Class := { plain "[I" (some 0) with kind := .array 7 .int, interfaces := #[3, 4], accessFlags := 1041 }

def heap : Heap := #[]
def classes : Array Class := #[k0, k1, k2, k3, k4, k5, k6, k7, k8]
def interned : List (Array UInt16 × Addr) := []
def slotsUsed : Nat := 0
def theMethod : MethodId := ⟨1, 2⟩
def args0 : Array Value := #[.int 3, .int 1000, .int 5, .int 7, .int 9]
def aboutOver (below : List Frame) : State where
  vm := { classes := classes, interned := interned.toArray }
  heap := heap
  slotsUsed := slotsUsed
  threads := #[{ frames := .invoking theMethod args0 :: below }]
def below0 : List Frame := [.native { method := ⟨0, 0⟩, args := #[] }]
def about1 : State := aboutOver below0
def p0 : Program := .bare "" "" ""
def e0 : Env := launch0.env 0 0 0
theorem w_frames : about1.frames = Frame.invoking theMethod args0 :: below0 := rfl
set_option maxRecDepth 65536 in
theorem w_args : argsFit about1.vm theMethod args0 = true := by decide +kernel
set_option maxRecDepth 65536 in
theorem w_heap : heapFits about1 = true := by decide +kernel
set_option maxRecDepth 65536 in
theorem w_runnable : about1.curStatus? = some .runnable := by decide +kernel
set_option maxRecDepth 65536 in
theorem w_alone : about1.alone = true := by decide +kernel
set_option maxRecDepth 65536 in
theorem w_named : about1.methodNamed? x = some theMethod := by decide +kernel
set_option maxRecDepth 65536 in
theorem w_hears : about1.hears theMethod below0 = true := by decide +kernel
set_option maxRecDepth 65536 in
theorem w_ripe : about1.ripe theMethod args0 below0 = true := by decide +kernel
theorem w_running : about1.status = .running := rfl
set_option maxRecDepth 65536 in
theorem w_room : about1.hasRoom e0.platform room_1 = true :=
  launch0.hasRoom_least _ room_1 (by decide +kernel) (by decide +kernel) (by decide +kernel) (by decide +kernel) (by decide +kernel) (by decide +kernel)
theorem allAtoms_all (ts : List Jvm.Cond) (a : Array Jvm.Value) (st : Jvm.State) : (allAtoms ts).before a st = ts.all (fun c => c.before a st) := by
  induction ts with
  | nil => rfl
  | cons c t ih =>
    show (Jvm.Cond.and c (allAtoms t)).before a st = _
    rw [Jvm.Cond.before_and, ih, List.all_cons]
def words1 : List Jvm.Cond := Jvm.Cond.code x code maxLocals ret :: tables_1
/-- a 'code' word, met by the world's own term for the bytes: nothing is compared byte by byte -/
theorem code_word {y : MethodName} {bytes : ByteArray} {mx : Nat} {rt : Option FieldType} {a : Array Value} {s : State} {m : MethodId} {meth : Method} {c : Code} (h1 : s.methodNamed? y = some m) (h2 : s.vm.method? m = some meth) (h3 : meth.code = some c) (h4 : c.code = bytes)
    (h5 : (c.maxLocals == mx && c.exceptionTable.isEmpty && decide (c.maxStack ≤ mostOperands) && decide (meth.sig.returnType = rt) && !meth.locks && decide (parseMethodDescriptor y.desc = some meth.sig)) = true) : (Jvm.Cond.code y bytes mx rt).before a s = true := by
  simp only [Bool.and_eq_true, beq_iff_eq, Bool.not_eq_true', decide_eq_true_eq] at h5
  obtain ⟨⟨⟨⟨⟨g1, g2⟩, g3⟩, g4⟩, g5⟩, g6⟩ := h5
  simp [Cond.before, Cond.holds, Cond.value, h1, h2, h3, h4, g1, g2, g3, g4, g5, g6]
def isCode : Jvm.Cond → Bool
  | .code _ _ _ _ => true
  | _ => false
theorem all_split {L : List Jvm.Cond} {P : Jvm.Cond → Bool} (h1 : L.all (fun c => isCode c || P c) = true) (h2 : ∀ c ∈ L.filter isCode, P c = true) : L.all P = true := by
  refine List.all_eq_true.mpr fun c hc => ?_
  have h := List.all_eq_true.mp h1 c hc
  rcases Bool.eq_false_or_eq_true (isCode c) with hi | hi
  · exact h2 c (List.mem_filter.mpr ⟨hc, hi⟩)
  · simpa [hi] using h
set_option maxRecDepth 65536 in
theorem w_c0 : (Jvm.Cond.code x code maxLocals ret).before args0 about1 = true := code_word (m := ⟨1, 2⟩) (meth := k1m2) (c := k1c2) (by decide +kernel) rfl rfl rfl (by decide +kernel)
set_option maxRecDepth 65536 in
theorem w_c1 : (Jvm.Cond.code ({ cls := "com/example/assentor/assentor/check/Odometer", name := "advance", desc := "([I[I)Z" } : Jvm.MethodName) prog_15_method_2_code (3 : Nat) (Option.some Jvm.ClassFile.FieldType.boolean)).before args0 about1 = true := code_word (m := ⟨2, 1⟩) (meth := k2m1) (c := k2c1) (by decide +kernel) rfl rfl rfl (by decide +kernel)
set_option maxRecDepth 65536 in
theorem w_c2 : (Jvm.Cond.code ({ cls := "com/example/assentor/assentor/check/OdometerAdvancePinLaw", name := "inRange", desc := "(II)Z" } : Jvm.MethodName) method_2_code (2 : Nat) (Option.some Jvm.ClassFile.FieldType.boolean)).before args0 about1 = true := code_word (m := ⟨1, 1⟩) (meth := k1m1) (c := k1c1) (by decide +kernel) rfl rfl rfl (by decide +kernel)
def codes1 : List Jvm.Cond := [Jvm.Cond.code x code maxLocals ret, Jvm.Cond.code ({ cls := "com/example/assentor/assentor/check/Odometer", name := "advance", desc := "([I[I)Z" } : Jvm.MethodName) prog_15_method_2_code (3 : Nat) (Option.some Jvm.ClassFile.FieldType.boolean), Jvm.Cond.code ({ cls := "com/example/assentor/assentor/check/OdometerAdvancePinLaw", name := "inRange", desc := "(II)Z" } : Jvm.MethodName) method_2_code (2 : Nat) (Option.some Jvm.ClassFile.FieldType.boolean)]
set_option maxRecDepth 65536 in
theorem codes_eq : words1.filter isCode = codes1 := rfl
theorem w_codes : ∀ c ∈ words1.filter isCode, c.before args0 about1 = true := by
  rw [codes_eq]
  intro c hc
  simp only [codes1, List.mem_cons, List.not_mem_nil, or_false] at hc
  rcases hc with rfl | rfl | rfl
  · exact w_c0
  · exact w_c1
  · exact w_c2
set_option maxRecDepth 65536 in
theorem w_t1 : words1.all (fun c => isCode c || c.before args0 about1) = true := by decide +kernel
theorem w_tables : (allAtoms (Jvm.Cond.code x code maxLocals ret :: tables_1)).before args0 about1 = true := by
  rw [allAtoms_all]
  show words1.all (fun c => c.before args0 about1) = true
  refine all_split ?_ w_codes
  rw [w_t1]
set_option maxRecDepth 65536 in
theorem w_case : (Jvm.Cond.and given_1 narrow_1).before args0 about1 = true := by decide +kernel
theorem w_applies : (headSpec (Jvm.Cond.code x code maxLocals ret :: tables_1) room_1).applies x e0.platform about1 = true :=
  (Spec.applies_iff w_frames).mpr ⟨w_running, w_runnable, w_alone, w_named, w_hears, w_ripe, w_room, w_tables⟩
theorem atStart : AtStart classFile x code maxLocals ret World_1 tables_1 room_1 Calls_1 rest_1 Pre_1 launch0 p0 e0 about1 theMethod args0 below0 :=
  ⟨lists_1, trivial, launch0.admits_env _ _ _, launch0.least_env, fairChoices_fair.cas, fairChoices_fair.clock, w_frames, w_args, w_heap, w_applies, trivial, trivial, w_case⟩
end start1
theorem witness_1 : WitnessClaimed_1 := ⟨start1.p0, start1.e0, start1.about1, start1.theMethod, start1.args0, start1.below0, start1.atStart⟩
end Jvm.Pilot.@@N@@
