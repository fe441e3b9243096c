import JvmDerived
import JvmDerived.Pilot.@@N@@Statement
import JvmDerived.Pilot.@@N@@Code
set_option linter.unusedVariables false
set_option linter.unusedSimpArgs false
namespace Jvm.RoadKit
open Sem ClassFile Op Lib Jvm.Stand Jvm.Free Jvm.LawKit
section New
variable {p : Program} {l : Launch} {e : Env} {R : Room} {s : State} {m : MethodId} {args : Array Value} {below : List Frame} {meth : Method} {c : Code} {T : State} {locs : List Loc} {cells slots : Nat}
theorem retI (X : Stand p l e R s m args below meth c T locs cells slots) (hx : p.tables.exec = Jvm.exec) {pc : Nat} {Ls : Array Slot} {z : Int32} {rest : List Value} (hret : meth.sig.returnType = some .int) (hd : decode c.code pc = .ok (.ireturn, 1)) {fs : List Frame}
    (hl : ∀ (f : JFrame) (acts : List Action), f.method = m → f.locked = none → f.entered = [] → (doReturn e (T.setTop f) acts (some (.int z))).1 = T.setFrames fs) : Steps p.tables e below (T.setTop (mkF m pc Ls (.int z :: rest))) (T.setFrames fs) := by
  have hm' : T.vm.method? m = some meth := X.method'
  have hn : narrow .int (.int z) = .int z := rfl
  show Steps p.tables e below (T.setTop { method := m, pc := pc, locals := Ls, stack := _ :: rest, locked := none }) _
  jvm_step X.here [X.here.top, hx, hd, hm', hret, hn]
  first | (intro acts; rw [hl _ acts rfl rfl rfl]) | rw [hl _ _ rfl rfl rfl]
  exact Steps.refl _
end New
end Jvm.RoadKit
namespace Jvm.Pilot.@@N@@
open Jvm Jvm.ClassFile Sem Op Lib Jvm.Free Jvm.Stand Jvm.LawKit Jvm.RoadKit Bundle Jvm.Pilot.@@N@@.Jvm.D
/-! the goals of a walk, and what closes them -/
def OEnd (p : Program) (e : Env) (below : List Frame) (s T : State) (g : JFrame) (Q : Option Value → Heap → List Loc → Prop) (kc ks : Nat) : Prop :=
  ∃ s₂ o, Steps p.tables e below (T.setTop g) s₂ ∧ s₂.status = .running ∧ Ended s₂ below o ∧ ∃ v L, o = .returned v ∧ Q v s₂.heap L ∧ FrameEnd s o s₂ L kc ks
def ORch (p : Program) (l : Launch) (e : Env) (R : Room) (s : State) (m : MethodId) (args : Array Value) (below : List Frame) (meth : Method) (c : Code) (n0 : Nat) (T : State) (g : JFrame) (h : Heap) (g' : JFrame) (cells slots : Nat) : Prop :=
  ∃ T' locs', Stand p l e R s m args below meth c T' locs' cells slots ∧ T'.heap = h ∧ Fr n0 locs' ∧ Goes p e below T g T' g'
def OArr (Z : State) (h : Heap) (a : Addr) (ty : FieldType) (n : Int32) (vs : List Value) (d : Value) : Prop := ∃ k, Arv Z h a k ty n vs d
def ORchH (p : Program) (l : Launch) (e : Env) (R : Room) (s : State) (m : MethodId) (args : Array Value) (below : List Frame) (meth : Method) (c : Code) (n0 : Nat) (T : State) (g : JFrame) (g' : JFrame) (cells slots : Nat) (P : Heap → Prop) : Prop :=
  ∃ T' h' locs', Stand p l e R s m args below meth c T' locs' cells slots ∧ T'.heap = h' ∧ Fr n0 locs' ∧ P h' ∧ Goes p e below T g T' g'
def ORchB (p : Program) (l : Launch) (e : Env) (R : Room) (s : State) (m : MethodId) (args : Array Value) (below : List Frame) (meth : Method) (c : Code) (n0 : Nat) (T : State) (g : JFrame) (g' : Addr → JFrame) (cells slots : Nat) (P : Heap → Addr → Prop) : Prop :=
  ∃ b T' h' locs', Stand p l e R s m args below meth c T' locs' cells slots ∧ T'.heap = h' ∧ Fr n0 locs' ∧ P h' b ∧ Goes p e below T g T' (g' b)
section Own
variable {p : Program} {l : Launch} {e : Env} {R : Room} {s : State} {m : MethodId} {args : Array Value} {below : List Frame} {meth : Method} {c : Code} {T T' : State} {locs : List Loc} {cells slots : Nat} {g g' g'' : JFrame} {Q : Option Value → Heap → List Loc → Prop} {kc ks : Nat}
theorem OEnd.go (k : Goes p e below T g T' g') (h : OEnd p e below s T' g' Q kc ks) : OEnd p e below s T g Q kc ks := by
  obtain ⟨s₂, o, h1, h2⟩ := h
  exact ⟨s₂, o, k _ h1, h2⟩
theorem ORch.go {n0 : Nat} {h : Heap} (k : Goes p e below T g T' g') (q : ORch p l e R s m args below meth c n0 T' g' h g'' cells slots) : ORch p l e R s m args below meth c n0 T g h g'' cells slots := by
  obtain ⟨T2, L2, h1, h2, h3, h4⟩ := q
  exact ⟨T2, L2, h1, h2, h3, fun t kt => k _ (h4 t kt)⟩
theorem ORchH.go {n0 : Nat} {P : Heap → Prop} (k : Goes p e below T g T' g') (q : ORchH p l e R s m args below meth c n0 T' g' g'' cells slots P) : ORchH p l e R s m args below meth c n0 T g g'' cells slots P := by
  obtain ⟨T2, h2, L2, h1, h2, h3, h4, h5⟩ := q
  exact ⟨T2, _, L2, h1, h2, h3, h4, fun t kt => k _ (h5 t kt)⟩
theorem ORchB.go {n0 : Nat} {P : Heap → Addr → Prop} {gb : Addr → JFrame} (k : Goes p e below T g T' g') (q : ORchB p l e R s m args below meth c n0 T' g' gb cells slots P) : ORchB p l e R s m args below meth c n0 T g gb cells slots P := by
  obtain ⟨b, T2, h2, L2, h1, h2, h3, h4, h5⟩ := q
  exact ⟨b, T2, _, L2, h1, h2, h3, h4, fun t kt => k _ (h5 t kt)⟩
theorem SGo.go {t : State} (k : Goes p e below T g T' g') (h : Steps p.tables e below (T'.setTop g') t) : Steps p.tables e below (T.setTop g) t := k _ h
theorem own_k {A : Type} {tb : Tables} {f : A → JFrame} {a b : A} {t : State} (q : a = b) (k : Steps tb e below (T.setTop (f a)) t) : Steps tb e below (T.setTop (f b)) t := q ▸ k
theorem own_symm {A : Type} {a b : A} (h : a = b) : b = a := h.symm
theorem own_via {A : Type} {a b c : A} (h : a = b) (k : a = c) : b = c := h.symm.trans k
theorem own_p {A : Type} {P : A → Prop} {a b : A} (q : a = b) (w : P a) : P b := q ▸ w
theorem own_at {h : Heap} {U : Heap} (q : U = h) {P : Heap → Prop} (w : P h) : P U := q ▸ w
theorem OArr.lt {Z : State} {h : Heap} {a : Addr} {ty : FieldType} {n : Int32} {vs : List Value} {d : Value} (F : OArr Z h a ty n vs d) : a < h.size := by obtain ⟨k, V⟩ := F; exact V.lt
theorem OArr.ext {Z : State} {h h' : Heap} {a : Addr} {ty : FieldType} {n : Int32} {vs : List Value} {d : Value} (F : OArr Z h a ty n vs d) (E : Ext h h') : OArr Z h' a ty n vs d := by obtain ⟨k, V⟩ := F; exact ⟨k, V.ext E⟩
theorem OArr.other {Z : State} {h h' : Heap} {a b : Addr} {ty : FieldType} {n : Int32} {vs : List Value} {d v : Value} {sl : Nat} (F : OArr Z h b ty n vs d) (W : Wr h h' a sl v) (q : b ≠ a) : OArr Z h' b ty n vs d := by obtain ⟨k, V⟩ := F; exact ⟨k, V.other W q⟩
theorem OArr.keep {Z : State} {h h' : Heap} {a : Addr} {ty : FieldType} {n : Int32} {vs : List Value} {d : Value} {ws : List Addr} (F : OArr Z h a ty n vs d) (K : Keep h h' ws) (q : a ∉ ws) : OArr Z h' a ty n vs d := by obtain ⟨k, V⟩ := F; exact ⟨k, V.keep K q⟩
theorem OEnd.int (X : Stand p l e R s m args below meth c T locs cells slots) (hx : p.tables.exec = Jvm.exec) {pc : Nat} {Ls : Array Slot} {z : Int32} {rest : List Value} (hret : meth.sig.returnType = some .int) (hlk : meth.locks = false) (hd : decode c.code pc = .ok (.ireturn, 1)) (hq : Q (some (.int z)) T.heap locs) (hc : cells ≤ kc) (hs : slots ≤ ks) :
    OEnd p e below s T (mkF m pc Ls (.int z :: rest)) Q kc ks := by
  obtain ⟨fs, hr, hrun, hended, hW, hsame⟩ := X.leave (v := some (.int z)) (fun h => by rw [hret] at h; cases h) hlk
  exact ⟨_, _, retI X hx hret hd hr, hrun, hended, _, _, rfl, hq, ⟨_, rfl⟩, hW, hsame.mono hc hs⟩
theorem OEnd.nar (X : Stand p l e R s m args below meth c T locs cells slots) (hx : p.tables.exec = Jvm.exec) {pc : Nat} {Ls : Array Slot} {z : Int32} {rest : List Value} {t : FieldType} (hret : meth.sig.returnType = some t) (ht : t = .boolean ∨ t = .byte ∨ t = .char ∨ t = .short) (hlk : meth.locks = false) (hd : decode c.code pc = .ok (.ireturn, 1)) (hq : Q (some (.int (nar t z))) T.heap locs) (hc : cells ≤ kc) (hs : slots ≤ ks) :
    OEnd p e below s T (mkF m pc Ls (.int z :: rest)) Q kc ks := by
  obtain ⟨fs, hr, hrun, hended, hW, hsame⟩ := X.leave (v := some (.int (RoadKit.nar t z))) (fun h => by rw [hret] at h; cases h) hlk
  exact ⟨_, _, retN X hx hret ht hd hr, hrun, hended, _, _, rfl, hq, ⟨_, rfl⟩, hW, hsame.mono hc hs⟩
theorem OEnd.long (X : Stand p l e R s m args below meth c T locs cells slots) (hx : p.tables.exec = Jvm.exec) {pc : Nat} {Ls : Array Slot} {z : Int64} (hret : meth.sig.returnType = some .long) (hlk : meth.locks = false) (hd : decode c.code pc = .ok (.lreturn, 1)) (hq : Q (some (.long z)) T.heap locs) (hc : cells ≤ kc) (hs : slots ≤ ks) :
    OEnd p e below s T (mkF m pc Ls [.long z]) Q kc ks := by
  obtain ⟨fs, hr, hrun, hended, hW, hsame⟩ := X.leave (v := some (.long z)) (fun h => by rw [hret] at h; cases h) hlk
  exact ⟨_, _, X.lreturnOut hx hret hd hr, hrun, hended, _, _, rfl, hq, ⟨_, rfl⟩, hW, hsame.mono hc hs⟩
theorem OEnd.void (X : Stand p l e R s m args below meth c T locs cells slots) (hx : p.tables.exec = Jvm.exec) {pc : Nat} {Ls : Array Slot} (hret : meth.sig.returnType = none) (hlk : meth.locks = false) (hd : decode c.code pc = .ok (.return_, 1)) (hq : Q none T.heap locs) (hc : cells ≤ kc) (hs : slots ≤ ks) :
    OEnd p e below s T (mkF m pc Ls []) Q kc ks := by
  obtain ⟨fs, hr, hrun, hended, hW, hsame⟩ := X.leave (v := none) (fun _ => rfl) hlk
  exact ⟨_, _, X.returnOut hx hret hd hr, hrun, hended, _, _, rfl, hq, ⟨_, rfl⟩, hW, hsame.mono hc hs⟩
end Own
theorem d1_0 : decode prog_1_method_3_code 0 = .ok (.lload_n 0, 1) := by decide +kernel
theorem d1_1 : decode prog_1_method_3_code 1 = .ok (.ldc2_w 120, 3) := by decide +kernel
theorem d1_4 : decode prog_1_method_3_code 4 = .ok (.ladd, 1) := by decide +kernel
theorem d1_5 : decode prog_1_method_3_code 5 = .ok (.lconst 1, 1) := by decide +kernel
theorem d1_6 : decode prog_1_method_3_code 6 = .ok (.lsub, 1) := by decide +kernel
theorem d1_7 : decode prog_1_method_3_code 7 = .ok (.ldc2_w 120, 3) := by decide +kernel
theorem d1_10 : decode prog_1_method_3_code 10 = .ok (.ldiv, 1) := by decide +kernel
theorem d1_11 : decode prog_1_method_3_code 11 = .ok (.lreturn, 1) := by decide +kernel
def f1 (q0 : Int64) : Int64 := (((q0 + (65536 : Int64)) - (1 : Int64)) / (65536 : Int64))
theorem pn_com_example_linkfold_linkfold_BlockSums : plainName "com/example/linkfold/linkfold/BlockSums" = true := by first | (simp [plainName, overriddenIn]; done) | decide +kernel
theorem ef_1 (m : MethodId) (x0 : Int64) : entryFrame m #[(.long x0)] 2 = mkF m 0 #[.val (.long x0), .second] [] := by first | (simp [entryFrame, mkF, argsToLocals, Value.category]; done) | rfl
def Q1 (Z : State) (q0 : Int64) (h0 : Heap) (n0 : Nat) (v : Option Value) (h : Heap) (L : List Loc) : Prop := v = some (.long (f1 q0)) ∧ Fr n0 L ∧ h = h0
set_option maxRecDepth 65536 in
set_option maxHeartbeats 40000000 in
theorem rm1 (l : Launch) (Z : State) (a0 : Array Value) (hw : ∀ d ∈ tables_1, d.before a0 Z = true) (ws : List Jvm.Cond) (q0 : Int64) (h0 : Heap) (n0 : Nat) (Z0 : n0 ≤ h0.size) :
    MetFree l (⟨"com/example/linkfold/linkfold/BlockSums", "blocks", "(J)J"⟩ : MethodName) (head1 (Jvm.Cond.code (⟨"com/example/linkfold/linkfold/BlockSums", "blocks", "(J)J"⟩ : MethodName) prog_1_method_3_code 2 (some .long) :: ws) ({ frames := 0, cells := 0, slots := 0, locals := 0 } : Room)) (fun a U => a = #[(.long q0)] ∧ Z.Warmed39 U.vm ∧ U.heap = h0) (fun _ _ _ _ _ => True) (fun _ U o U' => ∃ v L, o = .returned v ∧ Q1 Z q0 h0 n0 v U'.heap L ∧ FrameEnd U o U' L ({ frames := 0, cells := 0, slots := 0, locals := 0 } : Room).cells ({ frames := 0, cells := 0, slots := 0, locals := 0 } : Room).slots) := by
  refine MetFree.of_bodySF (plainFor_of_name pn_com_example_linkfold_linkfold_BlockSums) hisR ?_
  intro p e s m args below meth c s₁ Bd hml0 hP hK
  obtain ⟨rfl, hZ, hh⟩ := hP
  have hx := Bd.exec
  have hby := Bd.bytes
  have hlk : meth.locks = false := BodyLoose.notSynchronized Bd
  have hml : c.maxLocals = 2 := hml0
  have hown : s.vm.findClass "com/example/linkfold/linkfold/BlockSums" = some m.cls := findClass_of_methodNamed Bd.named
  have hnm := (name_of_methodNamed Bd.named Bd.method).1
  have X0 : Stand p l e ({ frames := 0, cells := 0, slots := 0, locals := 0 } : Room) s m #[(.long q0)] below meth c s₁ [] 0 0 := Stand.of_body Bd
  have e0 : s₁.heap = h0 := by rw [← hh, Bd.state]; rfl
  have N0 := Fr.nil n0
  show OEnd p e below s s₁ (entryFrame m #[(.long q0)] 2) (Q1 Z q0 h0 n0) ({ frames := 0, cells := 0, slots := 0, locals := 0 } : Room).cells ({ frames := 0, cells := 0, slots := 0, locals := 0 } : Room).slots
  refine OEnd.go (g' := (mkF m 0 #[.val (.long q0), .second] [])) (fun _ k => castTop (ef_1 m q0) k) ?_
  refine OEnd.go (T' := s₁) (g' := (mkF m 11 #[.val (.long q0), .second] [(.long (((q0 + (65536 : Int64)) - (1 : Int64)) / (65536 : Int64)))])) (fun t k => ?_) ?_
  · show Steps p.tables e below (s₁.setTop (mkF m 0 #[.val (.long q0), .second] [])) t
    refine XS.lloadN X0.here hx rfl (hb hby d1_0) rfl ?_
    show Steps p.tables e below (s₁.setTop (mkF m 1 #[.val (.long q0), .second] [(.long q0)])) t
    refine X0.ldc2Long hx hown (mvT hZ (hw _ (List.mem_of_getElem? (i := 7) rfl))) (g := (mkF m 1 #[.val (.long q0), .second] [(.long q0)])) rfl (hb hby d1_1) _ ?_
    show Steps p.tables e below (s₁.setTop (mkF m 4 #[.val (.long q0), .second] [(.long (65536 : Int64)), (.long q0)])) t
    refine XS.ladd X0.here hx rfl (hb hby d1_4) rfl ?_
    show Steps p.tables e below (s₁.setTop (mkF m 5 #[.val (.long q0), .second] [(.long (q0 + (65536 : Int64)))])) t
    refine XS.lconst X0.here hx rfl (hb hby d1_5) ?_
    show Steps p.tables e below (s₁.setTop (mkF m 6 #[.val (.long q0), .second] [(.long (1 : Int64)), (.long (q0 + (65536 : Int64)))])) t
    refine XS.lsub X0.here hx rfl (hb hby d1_6) rfl ?_
    show Steps p.tables e below (s₁.setTop (mkF m 7 #[.val (.long q0), .second] [(.long ((q0 + (65536 : Int64)) - (1 : Int64)))])) t
    refine X0.ldc2Long hx hown (mvT hZ (hw _ (List.mem_of_getElem? (i := 7) rfl))) (g := (mkF m 7 #[.val (.long q0), .second] [(.long ((q0 + (65536 : Int64)) - (1 : Int64)))])) rfl (hb hby d1_7) _ ?_
    show Steps p.tables e below (s₁.setTop (mkF m 10 #[.val (.long q0), .second] [(.long (65536 : Int64)), (.long ((q0 + (65536 : Int64)) - (1 : Int64)))])) t
    refine XS.ldiv X0.here hx rfl (hb hby d1_10) rfl (by decide) ?_
    show Steps p.tables e below (s₁.setTop (mkF m 11 #[.val (.long q0), .second] [(.long (((q0 + (65536 : Int64)) - (1 : Int64)) / (65536 : Int64)))])) t
    exact k
  exact OEnd.long X0 hx Bd.returns hlk (hb hby d1_11) ⟨rfl, N0, e0⟩ (by decide) (by decide)
theorem pd__J_J : parseMethodDescriptor "(J)J" = some ⟨[.long], some .long⟩ := by decide +kernel
def v0_5 (q0 : Int64) : Int64 := (q0 &&& (9223372036854775807 : Int64))
def v0_20_2 (q0 : Int64) : Int64 := (if (9223372036854710272 : Int64) < (v0_5 q0) then ((v0_5 q0) - (65536 : Int64)) else (v0_5 q0))
def v0_24 (q0 : Int64) : Int64 := (((v0_20_2 q0).toUInt64 >>> ((16 : Int32) &&& 0x3f).toInt64.toUInt64).toInt64)
def v0_31 (q0 : Int64) : Int64 := ((v0_20_2 q0) &&& (65535 : Int64))
def v0_49 (q0 : Int64) : Int64 := (if (v0_31 q0) = (0 : Int64) then (v0_24 q0) else ((v0_24 q0) + (1 : Int64)))
def la0_0 (q0 : Int64) : Array Slot := #[.val (.long q0), .second, .val (.long (v0_20_2 q0)), .second, .val (.long (v0_24 q0)), .second, .val (.long (v0_31 q0)), .second, .val (.long (v0_49 q0)), .second]
def la0_1 (q0 : Int64) : Array Slot := #[.val (.long q0), .second, .val (.long (if (9223372036854710272 : Int64) < (v0_5 q0) then ((v0_5 q0) - (65536 : Int64)) else (v0_5 q0))), .second, .unset, .unset, .unset, .unset, .unset, .unset]
def f0 (q0 : Int64) : Int32 := (if (f1 (v0_20_2 q0)) = (v0_49 q0) then (1 : Int32) else (0 : Int32))
theorem own_b (x : Int64) : 0 ≤ (v0_20_2 x).toInt ∧ (v0_20_2 x).toInt ≤ 9223372036854710272 := by
  have h5 : (v0_5 x).toInt = x.toInt % ((2 ^ 63 : Nat) : Int) := c_maskL x 9223372036854775807 63 (by decide) (by decide)
  have e1 : (9223372036854710272 : Int64).toInt = 9223372036854710272 := by decide
  have e2 : (65536 : Int64).toInt = 65536 := by decide
  unfold v0_20_2
  split
  · rename_i h
    rw [Int64.lt_iff_toInt_lt, e1] at h
    have h2 := c_lsub (v0_5 x) 65536
    have b1 := ((v0_5 x) - (65536 : Int64)).toInt_lt
    have b2 := ((v0_5 x) - (65536 : Int64)).le_toInt
    rw [e2] at h2
    omega
  · rename_i h
    rw [Int64.lt_iff_toInt_lt, e1] at h
    omega
theorem own_plain (x : Int64) : f0 x = 1 := by
  obtain ⟨h1, h2⟩ := own_b x
  have e0 : (0 : Int64).toInt = 0 := by decide
  have e1 : (1 : Int64).toInt = 1 := by decide
  have e2 : (65536 : Int64).toInt = 65536 := by decide
  have hq : (v0_24 x).toInt = ((v0_20_2 x).toInt % 18446744073709551616) / ((2 ^ 16 : Nat) : Int) := c_lushr (v0_20_2 x) 16 16 (by decide) (by decide)
  have hr : (v0_31 x).toInt = (v0_20_2 x).toInt % ((2 ^ 16 : Nat) : Int) := c_maskL (v0_20_2 x) 65535 16 (by decide) (by decide)
  have key : f1 (v0_20_2 x) = v0_49 x := by
    unfold f1 v0_49
    have a1 := c_ladd (v0_20_2 x) 65536
    have a2 := c_lsub ((v0_20_2 x) + 65536) 1
    have b1 := (((v0_20_2 x) + 65536) - (1 : Int64)).toInt_lt
    have b2 := (((v0_20_2 x) + 65536) - (1 : Int64)).le_toInt
    have d := (c_ldiv (((v0_20_2 x) + 65536) - 1) 65536 65536 (by decide) (by decide)).1
    rw [e2] at a1
    rw [e1] at a2
    have s1 : (((v0_20_2 x) + 65536) - (1 : Int64)).toInt = (v0_20_2 x).toInt + 65535 := by omega
    have d2 := d (by omega)
    rw [s1] at d2
    apply Int64.toInt_inj.mp
    rw [d2]
    split
    · rename_i hz
      rw [← Int64.toInt_inj, e0] at hz
      omega
    · rename_i hz
      rw [← Int64.toInt_inj, e0] at hz
      have a3 := c_ladd (v0_24 x) 1
      have b3 := ((v0_24 x) + (1 : Int64)).toInt_lt
      have b4 := ((v0_24 x) + (1 : Int64)).le_toInt
      rw [e1] at a3
      omega
  unfold f0
  rw [if_pos key]
theorem pn_com_example_linkfold_linkfold_BlockSumsBlocksPinLaw : plainName "com/example/linkfold/linkfold/BlockSumsBlocksPinLaw" = true := by first | (simp [plainName, overriddenIn]; done) | decide +kernel
theorem ef_0 (m : MethodId) (x0 : Int64) : entryFrame m #[(.long x0)] maxLocals = mkF m 0 #[.val (.long x0), .second, .unset, .unset, .unset, .unset, .unset, .unset, .unset, .unset] [] := by first | (simp [entryFrame, mkF, argsToLocals, Value.category, maxLocals]; done) | rfl
def Q0 (Z : State) (q0 : Int64) (h0 : Heap) (n0 : Nat) (v : Option Value) (h : Heap) (L : List Loc) : Prop := v = some (.int 1) ∧ Fr n0 L
set_option maxRecDepth 65536 in
set_option maxHeartbeats 40000000 in
theorem rm0 (l : Launch) (Z : State) (a0 : Array Value) (hw : ∀ d ∈ tables_1, d.before a0 Z = true) (ws : List Jvm.Cond) (q0 : Int64) (h0 : Heap) (n0 : Nat) (Z0 : n0 ≤ h0.size) :
    MetFree l x (head1 (Jvm.Cond.code x code maxLocals ret :: ws) room_1) (fun a U => a = #[(.long q0)] ∧ Z.Warmed39 U.vm ∧ U.heap = h0) (fun _ _ _ _ _ => True) (fun _ U o U' => ∃ v L, o = .returned v ∧ Q0 Z q0 h0 n0 v U'.heap L ∧ FrameEnd U o U' L room_1.cells room_1.slots) := by
  refine MetFree.of_bodySF (plainFor_of_name pn_com_example_linkfold_linkfold_BlockSumsBlocksPinLaw) hisR ?_
  intro p e s m args below meth c s₁ Bd hml0 hP hK
  obtain ⟨rfl, hZ, hh⟩ := hP
  have hx := Bd.exec
  have hby := Bd.bytes
  have hlk : meth.locks = false := BodyLoose.notSynchronized Bd
  have hml : c.maxLocals = 10 := hml0
  have hown : s.vm.findClass "com/example/linkfold/linkfold/BlockSumsBlocksPinLaw" = some m.cls := findClass_of_methodNamed Bd.named
  have hnm := (name_of_methodNamed Bd.named Bd.method).1
  have X0 : Stand p l e room_1 s m #[(.long q0)] below meth c s₁ [] 0 0 := Stand.of_body Bd
  have e0 : s₁.heap = h0 := by rw [← hh, Bd.state]; rfl
  have N0 := Fr.nil n0
  show OEnd p e below s s₁ (entryFrame m #[(.long q0)] maxLocals) (Q0 Z q0 h0 n0) room_1.cells room_1.slots
  refine OEnd.go (g' := (mkF m 0 #[.val (.long q0), .second, .unset, .unset, .unset, .unset, .unset, .unset, .unset, .unset] [])) (fun _ k => castTop (ef_0 m q0) k) ?_
  refine OEnd.go (T' := s₁) (g' := (mkF m 11 #[.val (.long q0), .second, .val (.long (v0_5 q0)), .second, .unset, .unset, .unset, .unset, .unset, .unset] [(.int (lcmpW (v0_5 q0) (9223372036854710272 : Int64)))])) (fun t k => ?_) ?_
  · show Steps p.tables e below (s₁.setTop (mkF m 0 #[.val (.long q0), .second, .unset, .unset, .unset, .unset, .unset, .unset, .unset, .unset] [])) t
    refine XS.lloadN X0.here hx rfl (hb hby at_0) rfl ?_
    show Steps p.tables e below (s₁.setTop (mkF m 1 #[.val (.long q0), .second, .unset, .unset, .unset, .unset, .unset, .unset, .unset, .unset] [(.long q0)])) t
    refine X0.ldc2Long hx hown (mvT hZ (hw _ (List.mem_of_getElem? (i := 0) rfl))) (g := (mkF m 1 #[.val (.long q0), .second, .unset, .unset, .unset, .unset, .unset, .unset, .unset, .unset] [(.long q0)])) rfl (hb hby at_1) _ ?_
    show Steps p.tables e below (s₁.setTop (mkF m 4 #[.val (.long q0), .second, .unset, .unset, .unset, .unset, .unset, .unset, .unset, .unset] [(.long (9223372036854775807 : Int64)), (.long q0)])) t
    refine XS.land X0.here hx rfl (hb hby at_4) rfl ?_
    show Steps p.tables e below (s₁.setTop (mkF m 5 #[.val (.long q0), .second, .unset, .unset, .unset, .unset, .unset, .unset, .unset, .unset] [(.long (q0 &&& (9223372036854775807 : Int64)))])) t
    refine XS.lstoreN X0.here hx rfl (hb hby at_5) rfl (l' := #[.val (.long q0), .second, .val (.long (v0_5 q0)), .second, .unset, .unset, .unset, .unset, .unset, .unset]) rfl ?_
    show Steps p.tables e below (s₁.setTop (mkF m 6 #[.val (.long q0), .second, .val (.long (v0_5 q0)), .second, .unset, .unset, .unset, .unset, .unset, .unset] [])) t
    refine XS.lloadN X0.here hx rfl (hb hby at_6) rfl ?_
    show Steps p.tables e below (s₁.setTop (mkF m 7 #[.val (.long q0), .second, .val (.long (v0_5 q0)), .second, .unset, .unset, .unset, .unset, .unset, .unset] [(.long (v0_5 q0))])) t
    refine X0.ldc2Long hx hown (mvT hZ (hw _ (List.mem_of_getElem? (i := 1) rfl))) (g := (mkF m 7 #[.val (.long q0), .second, .val (.long (v0_5 q0)), .second, .unset, .unset, .unset, .unset, .unset, .unset] [(.long (v0_5 q0))])) rfl (hb hby at_7) _ ?_
    show Steps p.tables e below (s₁.setTop (mkF m 10 #[.val (.long q0), .second, .val (.long (v0_5 q0)), .second, .unset, .unset, .unset, .unset, .unset, .unset] [(.long (9223372036854710272 : Int64)), (.long (v0_5 q0))])) t
    refine XS.lcmp X0.here hx rfl (hb hby at_10) rfl ?_
    show Steps p.tables e below (s₁.setTop (mkF m 11 #[.val (.long q0), .second, .val (.long (v0_5 q0)), .second, .unset, .unset, .unset, .unset, .unset, .unset] [(.int (lcmpW (v0_5 q0) (9223372036854710272 : Int64)))])) t
    exact k
  refine OEnd.go (T' := s₁) (g' := (mkF m 20 (la0_1 q0) [])) (fun t k => ?_) ?_
  · show Steps p.tables e below (s₁.setTop (mkF m 11 #[.val (.long q0), .second, .val (.long (v0_5 q0)), .second, .unset, .unset, .unset, .unset, .unset, .unset] [(.int (lcmpW (v0_5 q0) (9223372036854710272 : Int64)))])) t
    by_cases hc1 : (9223372036854710272 : Int64) < (v0_5 q0)
    · skip
      refine XS.ifNo X0.here hx rfl (hb hby at_11) rfl ((if0 _ _).trans (tlt ((lw_gt (v0_5 q0) (9223372036854710272 : Int64)).mpr hc1)).2.2.2) ?_
      show Steps p.tables e below (s₁.setTop (mkF m 14 #[.val (.long q0), .second, .val (.long (v0_5 q0)), .second, .unset, .unset, .unset, .unset, .unset, .unset] [])) t
      refine SGo.go (T' := s₁) (g' := (mkF m 20 #[.val (.long q0), .second, .val (.long ((v0_5 q0) - (65536 : Int64))), .second, .unset, .unset, .unset, .unset, .unset, .unset] [])) (fun t k => ?_) ?_
      · show Steps p.tables e below (s₁.setTop (mkF m 14 #[.val (.long q0), .second, .val (.long (v0_5 q0)), .second, .unset, .unset, .unset, .unset, .unset, .unset] [])) t
        refine XS.lloadN X0.here hx rfl (hb hby at_14) rfl ?_
        show Steps p.tables e below (s₁.setTop (mkF m 15 #[.val (.long q0), .second, .val (.long (v0_5 q0)), .second, .unset, .unset, .unset, .unset, .unset, .unset] [(.long (v0_5 q0))])) t
        refine X0.ldc2Long hx hown (mvT hZ (hw _ (List.mem_of_getElem? (i := 8) rfl))) (g := (mkF m 15 #[.val (.long q0), .second, .val (.long (v0_5 q0)), .second, .unset, .unset, .unset, .unset, .unset, .unset] [(.long (v0_5 q0))])) rfl (hb hby at_15) _ ?_
        show Steps p.tables e below (s₁.setTop (mkF m 18 #[.val (.long q0), .second, .val (.long (v0_5 q0)), .second, .unset, .unset, .unset, .unset, .unset, .unset] [(.long (65536 : Int64)), (.long (v0_5 q0))])) t
        refine XS.lsub X0.here hx rfl (hb hby at_18) rfl ?_
        show Steps p.tables e below (s₁.setTop (mkF m 19 #[.val (.long q0), .second, .val (.long (v0_5 q0)), .second, .unset, .unset, .unset, .unset, .unset, .unset] [(.long ((v0_5 q0) - (65536 : Int64)))])) t
        refine XS.lstoreN X0.here hx rfl (hb hby at_19) rfl (l' := #[.val (.long q0), .second, .val (.long ((v0_5 q0) - (65536 : Int64))), .second, .unset, .unset, .unset, .unset, .unset, .unset]) rfl ?_
        show Steps p.tables e below (s₁.setTop (mkF m 20 #[.val (.long q0), .second, .val (.long ((v0_5 q0) - (65536 : Int64))), .second, .unset, .unset, .unset, .unset, .unset, .unset] [])) t
        exact k
      exact (own_k (f := fun (z : Int64) => mkF m 20 #[.val (.long q0), .second, .val (.long z), .second, .unset, .unset, .unset, .unset, .unset, .unset] []) (if_pos hc1) k)
    · skip
      refine XS.ifYes X0.here hx rfl (pc0 := 11) (pc' := 20) rfl (hb hby at_11) rfl ((if0 _ _).trans (flt ((fun q => hc1 ((lw_gt (v0_5 q0) (9223372036854710272 : Int64)).mp q)))).2.2.2) (by decide) (by decide) ?_
      show Steps p.tables e below (s₁.setTop (mkF m 20 #[.val (.long q0), .second, .val (.long (v0_5 q0)), .second, .unset, .unset, .unset, .unset, .unset, .unset] [])) t
      exact (own_k (f := fun (z : Int64) => mkF m 20 #[.val (.long q0), .second, .val (.long z), .second, .unset, .unset, .unset, .unset, .unset, .unset] []) (if_neg hc1) k)
  refine OEnd.go (T' := s₁) (g' := (mkF m 37 #[.val (.long q0), .second, .val (.long (v0_20_2 q0)), .second, .val (.long (v0_24 q0)), .second, .val (.long (v0_31 q0)), .second, .unset, .unset] [(.int (lcmpW (v0_31 q0) (0 : Int64)))])) (fun t k => ?_) ?_
  · show Steps p.tables e below (s₁.setTop (mkF m 20 #[.val (.long q0), .second, .val (.long (v0_20_2 q0)), .second, .unset, .unset, .unset, .unset, .unset, .unset] [])) t
    refine XS.lloadN X0.here hx rfl (hb hby at_20) rfl ?_
    show Steps p.tables e below (s₁.setTop (mkF m 21 #[.val (.long q0), .second, .val (.long (v0_20_2 q0)), .second, .unset, .unset, .unset, .unset, .unset, .unset] [(.long (v0_20_2 q0))])) t
    refine XS.bipush X0.here hx rfl (hb hby at_21) ?_
    show Steps p.tables e below (s₁.setTop (mkF m 23 #[.val (.long q0), .second, .val (.long (v0_20_2 q0)), .second, .unset, .unset, .unset, .unset, .unset, .unset] [(.int (16 : Int32)), (.long (v0_20_2 q0))])) t
    refine XS.lushr X0.here hx rfl (hb hby at_23) rfl ?_
    show Steps p.tables e below (s₁.setTop (mkF m 24 #[.val (.long q0), .second, .val (.long (v0_20_2 q0)), .second, .unset, .unset, .unset, .unset, .unset, .unset] [(.long (((v0_20_2 q0).toUInt64 >>> ((16 : Int32) &&& 0x3f).toInt64.toUInt64).toInt64))])) t
    refine XS.lstore X0.here hx rfl (hb hby at_24) rfl (l' := #[.val (.long q0), .second, .val (.long (v0_20_2 q0)), .second, .val (.long (v0_24 q0)), .second, .unset, .unset, .unset, .unset]) rfl ?_
    show Steps p.tables e below (s₁.setTop (mkF m 26 #[.val (.long q0), .second, .val (.long (v0_20_2 q0)), .second, .val (.long (v0_24 q0)), .second, .unset, .unset, .unset, .unset] [])) t
    refine XS.lloadN X0.here hx rfl (hb hby at_26) rfl ?_
    show Steps p.tables e below (s₁.setTop (mkF m 27 #[.val (.long q0), .second, .val (.long (v0_20_2 q0)), .second, .val (.long (v0_24 q0)), .second, .unset, .unset, .unset, .unset] [(.long (v0_20_2 q0))])) t
    refine X0.ldc2Long hx hown (mvT hZ (hw _ (List.mem_of_getElem? (i := 2) rfl))) (g := (mkF m 27 #[.val (.long q0), .second, .val (.long (v0_20_2 q0)), .second, .val (.long (v0_24 q0)), .second, .unset, .unset, .unset, .unset] [(.long (v0_20_2 q0))])) rfl (hb hby at_27) _ ?_
    show Steps p.tables e below (s₁.setTop (mkF m 30 #[.val (.long q0), .second, .val (.long (v0_20_2 q0)), .second, .val (.long (v0_24 q0)), .second, .unset, .unset, .unset, .unset] [(.long (65535 : Int64)), (.long (v0_20_2 q0))])) t
    refine XS.land X0.here hx rfl (hb hby at_30) rfl ?_
    show Steps p.tables e below (s₁.setTop (mkF m 31 #[.val (.long q0), .second, .val (.long (v0_20_2 q0)), .second, .val (.long (v0_24 q0)), .second, .unset, .unset, .unset, .unset] [(.long ((v0_20_2 q0) &&& (65535 : Int64)))])) t
    refine XS.lstore X0.here hx rfl (hb hby at_31) rfl (l' := #[.val (.long q0), .second, .val (.long (v0_20_2 q0)), .second, .val (.long (v0_24 q0)), .second, .val (.long (v0_31 q0)), .second, .unset, .unset]) rfl ?_
    show Steps p.tables e below (s₁.setTop (mkF m 33 #[.val (.long q0), .second, .val (.long (v0_20_2 q0)), .second, .val (.long (v0_24 q0)), .second, .val (.long (v0_31 q0)), .second, .unset, .unset] [])) t
    refine XS.lload X0.here hx rfl (hb hby at_33) rfl ?_
    show Steps p.tables e below (s₁.setTop (mkF m 35 #[.val (.long q0), .second, .val (.long (v0_20_2 q0)), .second, .val (.long (v0_24 q0)), .second, .val (.long (v0_31 q0)), .second, .unset, .unset] [(.long (v0_31 q0))])) t
    refine XS.lconst X0.here hx rfl (hb hby at_35) ?_
    show Steps p.tables e below (s₁.setTop (mkF m 36 #[.val (.long q0), .second, .val (.long (v0_20_2 q0)), .second, .val (.long (v0_24 q0)), .second, .val (.long (v0_31 q0)), .second, .unset, .unset] [(.long (0 : Int64)), (.long (v0_31 q0))])) t
    refine XS.lcmp X0.here hx rfl (hb hby at_36) rfl ?_
    show Steps p.tables e below (s₁.setTop (mkF m 37 #[.val (.long q0), .second, .val (.long (v0_20_2 q0)), .second, .val (.long (v0_24 q0)), .second, .val (.long (v0_31 q0)), .second, .unset, .unset] [(.int (lcmpW (v0_31 q0) (0 : Int64)))])) t
    exact k
  refine OEnd.go (T' := s₁) (g' := (mkF m 49 #[.val (.long q0), .second, .val (.long (v0_20_2 q0)), .second, .val (.long (v0_24 q0)), .second, .val (.long (v0_31 q0)), .second, .unset, .unset] [(.long (if (v0_31 q0) = (0 : Int64) then (v0_24 q0) else ((v0_24 q0) + (1 : Int64))))])) (fun t k => ?_) ?_
  · show Steps p.tables e below (s₁.setTop (mkF m 37 #[.val (.long q0), .second, .val (.long (v0_20_2 q0)), .second, .val (.long (v0_24 q0)), .second, .val (.long (v0_31 q0)), .second, .unset, .unset] [(.int (lcmpW (v0_31 q0) (0 : Int64)))])) t
    by_cases hc2 : (v0_31 q0) = (0 : Int64)
    · skip
      refine XS.ifNo X0.here hx rfl (hb hby at_37) rfl ((if0 _ _).trans (teq ((lw_eq (v0_31 q0) (0 : Int64)).mpr hc2)).2) ?_
      show Steps p.tables e below (s₁.setTop (mkF m 40 #[.val (.long q0), .second, .val (.long (v0_20_2 q0)), .second, .val (.long (v0_24 q0)), .second, .val (.long (v0_31 q0)), .second, .unset, .unset] [])) t
      refine SGo.go (T' := s₁) (g' := (mkF m 49 #[.val (.long q0), .second, .val (.long (v0_20_2 q0)), .second, .val (.long (v0_24 q0)), .second, .val (.long (v0_31 q0)), .second, .unset, .unset] [(.long (v0_24 q0))])) (fun t k => ?_) ?_
      · show Steps p.tables e below (s₁.setTop (mkF m 40 #[.val (.long q0), .second, .val (.long (v0_20_2 q0)), .second, .val (.long (v0_24 q0)), .second, .val (.long (v0_31 q0)), .second, .unset, .unset] [])) t
        refine XS.lload X0.here hx rfl (hb hby at_40) rfl ?_
        show Steps p.tables e below (s₁.setTop (mkF m 42 #[.val (.long q0), .second, .val (.long (v0_20_2 q0)), .second, .val (.long (v0_24 q0)), .second, .val (.long (v0_31 q0)), .second, .unset, .unset] [(.long (v0_24 q0))])) t
        refine XS.goto X0.here hx rfl (pc0 := 42) (pc' := 49) rfl (hb hby at_42) (by decide) (by decide) ?_
        show Steps p.tables e below (s₁.setTop (mkF m 49 #[.val (.long q0), .second, .val (.long (v0_20_2 q0)), .second, .val (.long (v0_24 q0)), .second, .val (.long (v0_31 q0)), .second, .unset, .unset] [(.long (v0_24 q0))])) t
        exact k
      exact (own_k (f := fun (z : Int64) => mkF m 49 #[.val (.long q0), .second, .val (.long (v0_20_2 q0)), .second, .val (.long (v0_24 q0)), .second, .val (.long (v0_31 q0)), .second, .unset, .unset] [(.long z)]) (if_pos hc2) k)
    · skip
      refine XS.ifYes X0.here hx rfl (pc0 := 37) (pc' := 45) rfl (hb hby at_37) rfl ((if0 _ _).trans (feq ((fun q => hc2 ((lw_eq (v0_31 q0) (0 : Int64)).mp q)))).2) (by decide) (by decide) ?_
      show Steps p.tables e below (s₁.setTop (mkF m 45 #[.val (.long q0), .second, .val (.long (v0_20_2 q0)), .second, .val (.long (v0_24 q0)), .second, .val (.long (v0_31 q0)), .second, .unset, .unset] [])) t
      refine SGo.go (T' := s₁) (g' := (mkF m 49 #[.val (.long q0), .second, .val (.long (v0_20_2 q0)), .second, .val (.long (v0_24 q0)), .second, .val (.long (v0_31 q0)), .second, .unset, .unset] [(.long ((v0_24 q0) + (1 : Int64)))])) (fun t k => ?_) ?_
      · show Steps p.tables e below (s₁.setTop (mkF m 45 #[.val (.long q0), .second, .val (.long (v0_20_2 q0)), .second, .val (.long (v0_24 q0)), .second, .val (.long (v0_31 q0)), .second, .unset, .unset] [])) t
        refine XS.lload X0.here hx rfl (hb hby at_45) rfl ?_
        show Steps p.tables e below (s₁.setTop (mkF m 47 #[.val (.long q0), .second, .val (.long (v0_20_2 q0)), .second, .val (.long (v0_24 q0)), .second, .val (.long (v0_31 q0)), .second, .unset, .unset] [(.long (v0_24 q0))])) t
        refine XS.lconst X0.here hx rfl (hb hby at_47) ?_
        show Steps p.tables e below (s₁.setTop (mkF m 48 #[.val (.long q0), .second, .val (.long (v0_20_2 q0)), .second, .val (.long (v0_24 q0)), .second, .val (.long (v0_31 q0)), .second, .unset, .unset] [(.long (1 : Int64)), (.long (v0_24 q0))])) t
        refine XS.ladd X0.here hx rfl (hb hby at_48) rfl ?_
        show Steps p.tables e below (s₁.setTop (mkF m 49 #[.val (.long q0), .second, .val (.long (v0_20_2 q0)), .second, .val (.long (v0_24 q0)), .second, .val (.long (v0_31 q0)), .second, .unset, .unset] [(.long ((v0_24 q0) + (1 : Int64)))])) t
        exact k
      exact (own_k (f := fun (z : Int64) => mkF m 49 #[.val (.long q0), .second, .val (.long (v0_20_2 q0)), .second, .val (.long (v0_24 q0)), .second, .val (.long (v0_31 q0)), .second, .unset, .unset] [(.long z)]) (if_neg hc2) k)
  refine OEnd.go (T' := s₁) (g' := (mkF m 52 (la0_0 q0) [(.long (v0_20_2 q0))])) (fun t k => ?_) ?_
  · show Steps p.tables e below (s₁.setTop (mkF m 49 #[.val (.long q0), .second, .val (.long (v0_20_2 q0)), .second, .val (.long (v0_24 q0)), .second, .val (.long (v0_31 q0)), .second, .unset, .unset] [(.long (if (v0_31 q0) = (0 : Int64) then (v0_24 q0) else ((v0_24 q0) + (1 : Int64))))])) t
    refine XS.lstore X0.here hx rfl (hb hby at_49) rfl (l' := (la0_0 q0)) rfl ?_
    show Steps p.tables e below (s₁.setTop (mkF m 51 (la0_0 q0) [])) t
    refine XS.lloadN X0.here hx rfl (hb hby at_51) rfl ?_
    show Steps p.tables e below (s₁.setTop (mkF m 52 (la0_0 q0) [(.long (v0_20_2 q0))])) t
    exact k
  obtain ⟨_, _, ⟨T3, L3, k3, n3⟩, -, X3, ⟨Lc3, hQ3, l3, y3, z3⟩, st3⟩ := Jvm.LawKit.callS X0 hx (y := (⟨"com/example/linkfold/linkfold/BlockSums", "blocks", "(J)J"⟩ : MethodName)) hown (mvT hZ (hw _ (List.mem_of_getElem? (i := 3) rfl))) (mvT hZ (hw _ (List.mem_of_getElem? (i := 4) rfl))) (mvT hZ (hw _ (List.mem_of_getElem? (i := 5) rfl))) (mvT hZ (hw _ (List.mem_of_getElem? (i := 6) rfl))) (by decide) (backOf (W := 0) (rm1 l Z a0 hw [] (v0_20_2 q0) h0 n0 Z0 ) hZ (hw _ (List.mem_of_getElem? (i := 6) rfl)) (hw _ (List.mem_of_getElem? (i := 5) rfl)) (by decide) (by decide)) (g := (mkF m 52 (la0_0 q0) [(.long (v0_20_2 q0))])) rfl (by rw [hml]; rfl) (argsL := [(.long (v0_20_2 q0))]) (rest := []) (lenOf pd__J_J rfl) rfl (by show 2 * 0 + _ ≤ _; exact Nat.le_of_eq rfl) (hb hby at_52) (fun _ _ => ⟨rfl, e0, (by decide : 0 + 0 ≤ _), (by decide : 0 + 0 ≤ _)⟩)
  dsimp only [Pt.U, Pt.locs, Pt.cells, Pt.slots] at X3 l3 y3 z3 st3 hQ3
  subst l3 y3 z3
  obtain ⟨rfl, N3q, e3⟩ := hQ3
  have N3 := Fr.app N0 N3q
  refine OEnd.go (g' := (mkF m 55 (la0_0 q0) [(.long (f1 (v0_20_2 q0)))])) st3 ?_
  refine OEnd.go (T' := T3) (g' := (mkF m 58 (la0_0 q0) [(.int (lcmpW (f1 (v0_20_2 q0)) (v0_49 q0)))])) (fun t k => ?_) ?_
  · show Steps p.tables e below (T3.setTop (mkF m 55 (la0_0 q0) [(.long (f1 (v0_20_2 q0)))])) t
    refine XS.lload X3.here hx rfl (hb hby at_55) rfl ?_
    show Steps p.tables e below (T3.setTop (mkF m 57 (la0_0 q0) [(.long (v0_49 q0)), (.long (f1 (v0_20_2 q0)))])) t
    refine XS.lcmp X3.here hx rfl (hb hby at_57) rfl ?_
    show Steps p.tables e below (T3.setTop (mkF m 58 (la0_0 q0) [(.int (lcmpW (f1 (v0_20_2 q0)) (v0_49 q0)))])) t
    exact k
  refine OEnd.go (T' := T3) (g' := (mkF m 66 (la0_0 q0) [(.int (if (f1 (v0_20_2 q0)) = (v0_49 q0) then (1 : Int32) else (0 : Int32)))])) (fun t k => ?_) ?_
  · show Steps p.tables e below (T3.setTop (mkF m 58 (la0_0 q0) [(.int (lcmpW (f1 (v0_20_2 q0)) (v0_49 q0)))])) t
    by_cases hc4 : (f1 (v0_20_2 q0)) = (v0_49 q0)
    · skip
      refine XS.ifNo X3.here hx rfl (hb hby at_58) rfl ((if0 _ _).trans (teq ((lw_eq (f1 (v0_20_2 q0)) (v0_49 q0)).mpr hc4)).2) ?_
      show Steps p.tables e below (T3.setTop (mkF m 61 (la0_0 q0) [])) t
      refine SGo.go (T' := T3) (g' := (mkF m 66 (la0_0 q0) [(.int (1 : Int32))])) (fun t k => ?_) ?_
      · show Steps p.tables e below (T3.setTop (mkF m 61 (la0_0 q0) [])) t
        refine XS.iconst X3.here hx rfl (hb hby at_61) ?_
        show Steps p.tables e below (T3.setTop (mkF m 62 (la0_0 q0) [(.int (1 : Int32))])) t
        refine XS.goto X3.here hx rfl (pc0 := 62) (pc' := 66) rfl (hb hby at_62) (by decide) (by decide) ?_
        show Steps p.tables e below (T3.setTop (mkF m 66 (la0_0 q0) [(.int (1 : Int32))])) t
        exact k
      exact (own_k (f := fun (z : Int32) => mkF m 66 #[.val (.long q0), .second, .val (.long (v0_20_2 q0)), .second, .val (.long (v0_24 q0)), .second, .val (.long (v0_31 q0)), .second, .val (.long (v0_49 q0)), .second] [(.int z)]) (if_pos hc4) k)
    · skip
      refine XS.ifYes X3.here hx rfl (pc0 := 58) (pc' := 65) rfl (hb hby at_58) rfl ((if0 _ _).trans (feq ((fun q => hc4 ((lw_eq (f1 (v0_20_2 q0)) (v0_49 q0)).mp q)))).2) (by decide) (by decide) ?_
      show Steps p.tables e below (T3.setTop (mkF m 65 (la0_0 q0) [])) t
      refine SGo.go (T' := T3) (g' := (mkF m 66 (la0_0 q0) [(.int (0 : Int32))])) (fun t k => ?_) ?_
      · show Steps p.tables e below (T3.setTop (mkF m 65 (la0_0 q0) [])) t
        refine XS.iconst X3.here hx rfl (hb hby at_65) ?_
        show Steps p.tables e below (T3.setTop (mkF m 66 (la0_0 q0) [(.int (0 : Int32))])) t
        exact k
      exact (own_k (f := fun (z : Int32) => mkF m 66 #[.val (.long q0), .second, .val (.long (v0_20_2 q0)), .second, .val (.long (v0_24 q0)), .second, .val (.long (v0_31 q0)), .second, .val (.long (v0_49 q0)), .second] [(.int z)]) (if_neg hc4) k)
  exact OEnd.nar X3 hx (t := .boolean) Bd.returns (by simp) hlk (hb hby at_66) ⟨(congrArg (fun z => some (Value.int (nar .boolean z))) (own_plain q0)), N3⟩ (by decide) (by decide)
set_option maxRecDepth 65536 in
set_option maxHeartbeats 40000000 in
theorem comes_1 {Post : Tables → Env → Array Value → State → Outcome → State → Prop} (hpost : ∀ tb e args s v u, (limb_1_1.after args s (.returned v) u = true ∧ limb_1_2.after args s (.returned v) u = true ∧ True) → FrameEnd s (.returned v) u (Jvm.fieldLocs frame_1_writes args s ++ Jvm.arrayLocs frame_1_arrays args s ++ Jvm.staticLocs frame_1_statics s) 0 0 → Post tb e args s (.returned v) u) :
    ArmFor flags0 classFile x code maxLocals ret World_1 tables_1 room_1 Calls_1 rest_1 Pre_1 Post := by
  intro l hfl _ _ p e ha hc hk s m args below hf hA hF happ hP
  obtain ⟨hcalls, hrest, hpre⟩ := hP
  obtain ⟨-, -, -, hnamed, -, -, -, hat⟩ := (Spec.applies_iff hf).mp happ
  obtain ⟨hg, hn⟩ := and_e (Cond.before_iff.mp (show (Jvm.Cond.and given_1 narrow_1).before args s = true from hpre))
  obtain ⟨c1, c2⟩ := and_e hg
  obtain ⟨w0, rfl⟩ : ∃ w0 : Value, args = #[w0] := by
    have hs : args.size = 1 := by simpa [Cond.value, given_1] using c1
    obtain ⟨L⟩ := args
    match L, hs with
    | [w0], _ => exact ⟨w0, rfl⟩
  have hw := fun d (hd : d ∈ tables_1) => atoms_spec (ws := Jvm.Cond.code x code maxLocals ret :: tables_1) hat d (List.mem_cons_of_mem _ hd)
  obtain ⟨i0, ei0⟩ := isL_v c2
  obtain rfl : w0 = (.long i0) := Option.some.inj ei0
  obtain ⟨n, o, h1, h2, h3, _, L, rfl, ⟨rfl, N⟩, hq⟩ := rm0 l s _ hw tables_1 i0 s.heap s.heap.size (Nat.le_refl _)  p e ha hc hk s m _ below hf ((Spec.applies_iff_loose hf).mp happ).1 ⟨rfl, State.Warmed39.refl s, rfl⟩ trivial
  refine ⟨n, _, h1, h2, h3, hpost _ _ _ _ _ _ ⟨Cond.after_iff.mpr rfl, Cond.after_iff.mpr (eq_i res_at (Term.int_eval (1)) rfl), trivial⟩ ⟨hq.1, hq.2.1, (hq.2.2.sift fun y hy => Or.inr (N y hy)).mono (by decide) (by decide)⟩⟩
theorem main_1_1 : Claimed_1_1 := comes_1 fun _ _ _ _ _ _ h hF => ⟨h.1, hF⟩
theorem main_1_2 : Claimed_1_2 := comes_1 fun _ _ _ _ _ _ h hF => ⟨h.2.1, hF⟩
end Jvm.Pilot.@@N@@
namespace Jvm.Pilot.@@N@@
open Jvm Jvm.ClassFile Sem Op Lib Jvm.Free Jvm.Stand Jvm.Pilot.@@N@@.Jvm.D
/-! MADE BY PROGRAM (witnessworld.py) out of the Statement's table words and the real class files: 10 classes; the members and pool entries that the words name. The judged class is class 1, her method 1. -/
namespace start1
open Jvm.ClassFile
def u (s : String) : CpInfo := .utf8 (stringToUtf16 s)
/-- a pool by its gaps: so many unusable entries, then the entry; so many at the end -/
def gap : Nat → List CpInfo → List CpInfo
  | 0, r => r
  | n + 1, r => .unusable :: gap n r
def poolList (es : List (Nat × CpInfo)) (last : Nat) : List CpInfo := es.foldr (fun e r => gap e.1 (e.2 :: r)) (gap last [])
def pool (es : List (Nat × CpInfo)) (last : Nat) : Array CpInfo := ⟨poolList es last⟩
def fileOf (pool : Array CpInfo) (this : Nat) (attrs : Array Attribute := #[]) (ms : Array MethodInfo := #[]) (fl : Nat := 33) (sup : Nat := 0) (ifs : Array Nat := #[]) (fds : Array FieldInfo := #[]) : ClassFile where
  minorVersion := 0
  majorVersion := 65
  constantPool := pool
  accessFlags := fl
  thisClass := this
  superClass := sup
  interfaces := ifs
  fields := fds
  methods := ms
  attributes := attrs
def plain (name : String) (sup : Option ClassId) : Class where
  name := name
  kind := .ordinary
  loader := none
  accessFlags := 33
  super := sup
  interfaces := #[]
  cf := none
  fields := #[]
  methods := #[]
  instanceTypes := #[]
  staticTypes := #[]
  resolved := #[]
  callSites := []
  init := .initialized
  statics := none
  mirror := none

def pool0 : Array CpInfo := pool [(5, u "<init>"), (0, u "()V"), (1, .class_ 10), (1, u "java/lang/Object")] 113

def k0m0 : Method := { name := "<init>", desc := "()V", sig := { parameters := [], returnType := none }, accessFlags := 1, code := none }
/-- java/lang/Object -/
def k0 : Class := { plain "java/lang/Object" none with
  accessFlags := 33
  interfaces := #[]
  cf := some (fileOf pool0 8 #[] #[{ accessFlags := 1, nameIndex := 5, descriptorIndex := 6, attributes := #[] }] 33 0 #[] #[])
  fields := #[]
  methods := #[k0m0]
  instanceTypes := #[]
  staticTypes := #[]
  resolved := Array.replicate 124 none
  statics := none }

def pool1 : Array CpInfo := pool [(2, .class_ 4), (1, u "java/lang/Object"), (0, u "<init>"), (0, u "()V"), (2, .long 9223372036854775807), (1, .long 9223372036854710272), (1, .long 65536), (1, .long 65535), (1, .methodref 18 19), (0, .class_ 20), (0, .nameAndType 21 22), (0, u "com/example/linkfold/linkfold/BlockSums"), (0, u "blocks"), (0, u "(J)J"), (0, .class_ 24), (0, u "com/example/linkfold/linkfold/BlockSumsBlocksPinLaw"), (2, u "law"), (0, u "(J)Z")] 3

def k1m0 : Method := { name := "<init>", desc := "()V", sig := { parameters := [], returnType := none }, accessFlags := 2, code := none }
def k1c1 : Code := { maxStack := 4, maxLocals := 10, code := code, exceptionTable := #[], attributes := #[] }
def k1m1 : Method := { name := "law", desc := "(J)Z", sig := { parameters := [.long], returnType := some .boolean }, accessFlags := 9, code := some k1c1 }
/-- com/example/linkfold/linkfold/BlockSumsBlocksPinLaw -/
def k1 : Class := { plain "com/example/linkfold/linkfold/BlockSumsBlocksPinLaw" (some 0) with
  accessFlags := 49
  interfaces := #[]
  cf := some (fileOf pool1 23 #[] #[{ accessFlags := 2, nameIndex := 5, descriptorIndex := 6, attributes := #[] }, { accessFlags := 9, nameIndex := 27, descriptorIndex := 28, attributes := #[] }] 49 2 #[] #[])
  fields := #[]
  methods := #[k1m0, k1m1]
  instanceTypes := #[]
  staticTypes := #[]
  resolved := Array.replicate 32 none
  statics := none }

def pool2 : Array CpInfo := pool [(1, .class_ 2), (0, u "com/example/linkfold/linkfold/bits/BitSource$Check"), (0, .class_ 4), (0, u "java/lang/Object"), (7, .class_ 13), (0, u "com/example/linkfold/linkfold/bits/BitSource")] 2

/-- com/example/linkfold/linkfold/bits/BitSource$Check -/
def k2 : Class := { plain "com/example/linkfold/linkfold/bits/BitSource$Check" (some 0) with
  accessFlags := 1537
  interfaces := #[]
  cf := some (fileOf pool2 1 #[.nestHost 12] #[] 1537 3 #[] #[])
  fields := #[]
  methods := #[]
  instanceTypes := #[]
  staticTypes := #[]
  resolved := Array.replicate 16 none
  statics := none }

def pool3 : Array CpInfo := pool [(1, .class_ 2), (0, u "com/example/linkfold/linkfold/BlockSums"), (3, .class_ 8), (1, u "java/lang/Object"), (7, u "soundBlocks"), (0, u "Ljava/util/concurrent/atomic/AtomicLong;"), (2, u "source"), (0, u "Lcom/example/linkfold/linkfold/bits/BitSource;"), (2, u "header"), (0, u "Lcom/example/linkfold/linkfold/Header;"), (2, u "start"), (0, u "J"), (2, u "end"), (2, u "blocks"), (0, u "(J)J"), (2, u "blockCount"), (11, u "checked"), (0, u "Ljava/util/concurrent/atomic/AtomicLongArray;"), (2, u "complete"), (0, u "Z"), (63, .long 65536), (82, .class_ 204), (0, u "com/example/linkfold/linkfold/bits/BitSource$Check"), (0, u "BLOCK_SHIFT"), (0, u "I"), (2, u "BLOCK_BYTES"), (1, u "SUM_BYTES")] 45

def k3c0 : Code := { maxStack := 4, maxLocals := 2, code := prog_1_method_3_code, exceptionTable := #[], attributes := #[] }
def k3m0 : Method := { name := "blocks", desc := "(J)J", sig := { parameters := [.long], returnType := some .long }, accessFlags := 8, code := some k3c0 }
/-- com/example/linkfold/linkfold/BlockSums -/
def k3 : Class := { plain "com/example/linkfold/linkfold/BlockSums" (some 0) with
  accessFlags := 48
  interfaces := #[2]
  cf := some (fileOf pool3 1 #[] #[{ accessFlags := 8, nameIndex := 35, descriptorIndex := 36, attributes := #[] }] 48 6 #[203] #[{ accessFlags := 26, nameIndex := 205, descriptorIndex := 206, attributes := #[] }, { accessFlags := 24, nameIndex := 209, descriptorIndex := 206, attributes := #[] }, { accessFlags := 24, nameIndex := 211, descriptorIndex := 206, attributes := #[] }, { accessFlags := 18, nameIndex := 20, descriptorIndex := 21, attributes := #[] }, { accessFlags := 18, nameIndex := 24, descriptorIndex := 25, attributes := #[] }, { accessFlags := 18, nameIndex := 28, descriptorIndex := 29, attributes := #[] }, { accessFlags := 18, nameIndex := 32, descriptorIndex := 29, attributes := #[] }, { accessFlags := 18, nameIndex := 51, descriptorIndex := 52, attributes := #[] }, { accessFlags := 18, nameIndex := 39, descriptorIndex := 29, attributes := #[] }, { accessFlags := 18, nameIndex := 16, descriptorIndex := 17, attributes := #[] }, { accessFlags := 2, nameIndex := 55, descriptorIndex := 56, attributes := #[] }])
  fields := #[{ name := "BLOCK_SHIFT", type := .int, accessFlags := 26, slot := 0, constantValue := 0 }, { name := "BLOCK_BYTES", type := .int, accessFlags := 24, slot := 1, constantValue := 0 }, { name := "SUM_BYTES", type := .int, accessFlags := 24, slot := 2, constantValue := 0 }, { name := "source", type := (.object "com/example/linkfold/linkfold/bits/BitSource"), accessFlags := 18, slot := 0, constantValue := 0 }, { name := "header", type := (.object "com/example/linkfold/linkfold/Header"), accessFlags := 18, slot := 1, constantValue := 0 }, { name := "start", type := .long, accessFlags := 18, slot := 2, constantValue := 0 }, { name := "end", type := .long, accessFlags := 18, slot := 3, constantValue := 0 }, { name := "checked", type := (.object "java/util/concurrent/atomic/AtomicLongArray"), accessFlags := 18, slot := 4, constantValue := 0 }, { name := "blockCount", type := .long, accessFlags := 18, slot := 5, constantValue := 0 }, { name := "soundBlocks", type := (.object "java/util/concurrent/atomic/AtomicLong"), accessFlags := 18, slot := 6, constantValue := 0 }, { name := "complete", type := .boolean, accessFlags := 2, slot := 7, constantValue := 0 }]
  methods := #[k3m0]
  instanceTypes := #[(.object "com/example/linkfold/linkfold/bits/BitSource"), (.object "com/example/linkfold/linkfold/Header"), .long, .long, (.object "java/util/concurrent/atomic/AtomicLongArray"), .long, (.object "java/util/concurrent/atomic/AtomicLong"), .boolean]
  staticTypes := #[.int, .int, .int]
  resolved := Array.replicate 257 none
  statics := none }

def pool4 : Array CpInfo := pool [(1, u "java/lang/Cloneable"), (0, .class_ 1), (0, u "java/lang/Object"), (0, .class_ 3)] 3

/-- java/lang/Cloneable -/
def k4 : Class := { plain "java/lang/Cloneable" (some 0) with
  accessFlags := 1537
  interfaces := #[]
  cf := some (fileOf pool4 2 #[] #[] 1537 4 #[] #[])
  fields := #[]
  methods := #[]
  instanceTypes := #[]
  staticTypes := #[]
  resolved := Array.replicate 8 none
  statics := none }

def pool5 : Array CpInfo := pool [(1, u "java/io/Serializable"), (0, .class_ 1), (0, u "java/lang/Object"), (0, .class_ 3)] 3

/-- java/io/Serializable -/
def k5 : Class := { plain "java/io/Serializable" (some 0) with
  accessFlags := 1537
  interfaces := #[]
  cf := some (fileOf pool5 2 #[] #[] 1537 4 #[] #[])
  fields := #[]
  methods := #[]
  instanceTypes := #[]
  staticTypes := #[]
  resolved := Array.replicate 8 none
  statics := none }

/-- the primitive byte -/
def k6 : Class := { plain "byte" none with kind := .primitive 'B', accessFlags := 0x411 }
/-- [B -/
def k7 : Class := { plain "[B" (some 0) with kind := .array 6 .byte, interfaces := #[4, 5], accessFlags := 1041 }

/-- the primitive int -/
def k8 : Class := { plain "int" none with kind := .primitive 'I', accessFlags := 0x411 }
/-- [I -/
def k9 : Class := { plain "[I" (some 0) with kind := .array 8 .int, interfaces := #[4, 5], accessFlags := 1041 }

def heap : Heap := #[]
def classes : Array Class := #[k0, k1, k2, k3, k4, k5, k6, k7, k8, k9]
def interned : List (Array UInt16 × Addr) := []
def slotsUsed : Nat := 0
def theMethod : MethodId := ⟨1, 1⟩
def args0 : Array Value := #[.long 5]
def aboutOver (below : List Frame) : State where
  vm := { classes := classes, interned := interned.toArray }
  heap := heap
  slotsUsed := slotsUsed
  threads := #[{ frames := .invoking theMethod args0 :: below }]
def below0 : List Frame := [.native { method := ⟨0, 0⟩, args := #[] }]
def about1 : State := aboutOver below0
def p0 : Program := .bare "" "" ""
def e0 : Env := launch0.env 0 0 0
theorem w_frames : about1.frames = Frame.invoking theMethod args0 :: below0 := rfl
set_option maxRecDepth 65536 in
theorem w_args : argsFit about1.vm theMethod args0 = true := by decide +kernel
set_option maxRecDepth 65536 in
theorem w_heap : heapFits about1 = true := by decide +kernel
set_option maxRecDepth 65536 in
theorem w_runnable : about1.curStatus? = some .runnable := by decide +kernel
set_option maxRecDepth 65536 in
theorem w_alone : about1.alone = true := by decide +kernel
set_option maxRecDepth 65536 in
theorem w_named : about1.methodNamed? x = some theMethod := by decide +kernel
set_option maxRecDepth 65536 in
theorem w_hears : about1.hears theMethod below0 = true := by decide +kernel
set_option maxRecDepth 65536 in
theorem w_ripe : about1.ripe theMethod args0 below0 = true := by decide +kernel
theorem w_running : about1.status = .running := rfl
set_option maxRecDepth 65536 in
theorem w_room : about1.hasRoom e0.platform room_1 = true :=
  launch0.hasRoom_least _ room_1 (by decide +kernel) (by decide +kernel) (by decide +kernel) (by decide +kernel) (by decide +kernel) (by decide +kernel)
theorem allAtoms_all (ts : List Jvm.Cond) (a : Array Jvm.Value) (st : Jvm.State) : (allAtoms ts).before a st = ts.all (fun c => c.before a st) := by
  induction ts with
  | nil => rfl
  | cons c t ih =>
    show (Jvm.Cond.and c (allAtoms t)).before a st = _
    rw [Jvm.Cond.before_and, ih, List.all_cons]
def words1 : List Jvm.Cond := Jvm.Cond.code x code maxLocals ret :: tables_1
/-- a 'code' word, met by the world's own term for the bytes: nothing is compared byte by byte -/
theorem code_word {y : MethodName} {bytes : ByteArray} {mx : Nat} {rt : Option FieldType} {a : Array Value} {s : State} {m : MethodId} {meth : Method} {c : Code} (h1 : s.methodNamed? y = some m) (h2 : s.vm.method? m = some meth) (h3 : meth.code = some c) (h4 : c.code = bytes)
    (h5 : (c.maxLocals == mx && c.exceptionTable.isEmpty && decide (c.maxStack ≤ mostOperands) && decide (meth.sig.returnType = rt) && !meth.locks && decide (parseMethodDescriptor y.desc = some meth.sig)) = true) : (Jvm.Cond.code y bytes mx rt).before a s = true := by
  simp only [Bool.and_eq_true, beq_iff_eq, Bool.not_eq_true', decide_eq_true_eq] at h5
  obtain ⟨⟨⟨⟨⟨g1, g2⟩, g3⟩, g4⟩, g5⟩, g6⟩ := h5
  simp [Cond.before, Cond.holds, Cond.value, h1, h2, h3, h4, g1, g2, g3, g4, g5, g6]
def isCode : Jvm.Cond → Bool
  | .code _ _ _ _ => true
  | _ => false
theorem all_split {L : List Jvm.Cond} {P : Jvm.Cond → Bool} (h1 : L.all (fun c => isCode c || P c) = true) (h2 : ∀ c ∈ L.filter isCode, P c = true) : L.all P = true := by
  refine List.all_eq_true.mpr fun c hc => ?_
  have h := List.all_eq_true.mp h1 c hc
  rcases Bool.eq_false_or_eq_true (isCode c) with hi | hi
  · exact h2 c (List.mem_filter.mpr ⟨hc, hi⟩)
  · simpa [hi] using h
set_option maxRecDepth 65536 in
theorem w_c0 : (Jvm.Cond.code x code maxLocals ret).before args0 about1 = true := code_word (m := ⟨1, 1⟩) (meth := k1m1) (c := k1c1) (by decide +kernel) rfl rfl rfl (by decide +kernel)
set_option maxRecDepth 65536 in
theorem w_c1 : (Jvm.Cond.code ({ cls := "com/example/linkfold/linkfold/BlockSums", name := "blocks", desc := "(J)J" } : Jvm.MethodName) prog_1_method_3_code (2 : Nat) (Option.some Jvm.ClassFile.FieldType.long)).before args0 about1 = true := code_word (m := ⟨3, 0⟩) (meth := k3m0) (c := k3c0) (by decide +kernel) rfl rfl rfl (by decide +kernel)
def codes1 : List Jvm.Cond := [Jvm.Cond.code x code maxLocals ret, Jvm.Cond.code ({ cls := "com/example/linkfold/linkfold/BlockSums", name := "blocks", desc := "(J)J" } : Jvm.MethodName) prog_1_method_3_code (2 : Nat) (Option.some Jvm.ClassFile.FieldType.long)]
set_option maxRecDepth 65536 in
theorem codes_eq : words1.filter isCode = codes1 := rfl
theorem w_codes : ∀ c ∈ words1.filter isCode, c.before args0 about1 = true := by
  rw [codes_eq]
  intro c hc
  simp only [codes1, List.mem_cons, List.not_mem_nil, or_false] at hc
  rcases hc with rfl | rfl
  · exact w_c0
  · exact w_c1
set_option maxRecDepth 65536 in
theorem w_t1 : words1.all (fun c => isCode c || c.before args0 about1) = true := by decide +kernel
theorem w_tables : (allAtoms (Jvm.Cond.code x code maxLocals ret :: tables_1)).before args0 about1 = true := by
  rw [allAtoms_all]
  show words1.all (fun c => c.before args0 about1) = true
  refine all_split ?_ w_codes
  rw [w_t1]
set_option maxRecDepth 65536 in
theorem w_case : (Jvm.Cond.and given_1 narrow_1).before args0 about1 = true := by decide +kernel
theorem w_applies : (headSpec (Jvm.Cond.code x code maxLocals ret :: tables_1) room_1).applies x e0.platform about1 = true :=
  (Spec.applies_iff w_frames).mpr ⟨w_running, w_runnable, w_alone, w_named, w_hears, w_ripe, w_room, w_tables⟩
theorem atStart : AtStart classFile x code maxLocals ret World_1 tables_1 room_1 Calls_1 rest_1 Pre_1 launch0 p0 e0 about1 theMethod args0 below0 :=
  ⟨lists_1, trivial, launch0.admits_env _ _ _, launch0.least_env, fairChoices_fair.cas, fairChoices_fair.clock, w_frames, w_args, w_heap, w_applies, trivial, trivial, w_case⟩
end start1
theorem witness_1 : WitnessClaimed_1 := ⟨start1.p0, start1.e0, start1.about1, start1.theMethod, start1.args0, start1.below0, start1.atStart⟩
end Jvm.Pilot.@@N@@
