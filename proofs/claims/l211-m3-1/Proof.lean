import JvmDerived
import JvmDerived.Pilot.@@N@@Statement
import JvmDerived.Pilot.@@N@@Code
set_option linter.unusedVariables false
set_option linter.unusedSimpArgs false
namespace Jvm.RoadKit
open Sem ClassFile Op Lib Jvm.Stand Jvm.Free Jvm.LawKit
section New
variable {p : Program} {l : Launch} {e : Env} {R : Room} {s : State} {m : MethodId} {args : Array Value} {below : List Frame} {meth : Method} {c : Code} {T : State} {locs : List Loc} {cells slots : Nat}
theorem retI (X : Stand p l e R s m args below meth c T locs cells slots) (hx : p.tables.exec = Jvm.exec) {pc : Nat} {Ls : Array Slot} {z : Int32} {rest : List Value} (hret : meth.sig.returnType = some .int) (hd : decode c.code pc = .ok (.ireturn, 1)) {fs : List Frame}
    (hl : ∀ (f : JFrame) (acts : List Action), f.method = m → f.locked = none → f.entered = [] → (doReturn e (T.setTop f) acts (some (.int z))).1 = T.setFrames fs) : Steps p.tables e below (T.setTop (mkF m pc Ls (.int z :: rest))) (T.setFrames fs) := by
  have hm' : T.vm.method? m = some meth := X.method'
  have hn : narrow .int (.int z) = .int z := rfl
  show Steps p.tables e below (T.setTop { method := m, pc := pc, locals := Ls, stack := _ :: rest, locked := none }) _
  jvm_step X.here [X.here.top, hx, hd, hm', hret, hn]
  first | (intro acts; rw [hl _ acts rfl rfl rfl]) | rw [hl _ _ rfl rfl rfl]
  exact Steps.refl _
end New
end Jvm.RoadKit
namespace Jvm.Pilot.@@N@@
open Jvm Jvm.ClassFile Sem Op Lib Jvm.Free Jvm.Stand Jvm.LawKit Jvm.RoadKit Bundle Jvm.Pilot.@@N@@.Jvm.D
/-! the goals of a walk, and what closes them -/
def OEnd (p : Program) (e : Env) (below : List Frame) (s T : State) (g : JFrame) (Q : Option Value → Heap → List Loc → Prop) (kc ks : Nat) : Prop :=
  ∃ s₂ o, Steps p.tables e below (T.setTop g) s₂ ∧ s₂.status = .running ∧ Ended s₂ below o ∧ ∃ v L, o = .returned v ∧ Q v s₂.heap L ∧ FrameEnd s o s₂ L kc ks
def ORch (p : Program) (l : Launch) (e : Env) (R : Room) (s : State) (m : MethodId) (args : Array Value) (below : List Frame) (meth : Method) (c : Code) (n0 : Nat) (T : State) (g : JFrame) (h : Heap) (g' : JFrame) (cells slots : Nat) : Prop :=
  ∃ T' locs', Stand p l e R s m args below meth c T' locs' cells slots ∧ T'.heap = h ∧ Fr n0 locs' ∧ Goes p e below T g T' g'
def OArr (Z : State) (h : Heap) (a : Addr) (ty : FieldType) (n : Int32) (vs : List Value) (d : Value) : Prop := ∃ k, Arv Z h a k ty n vs d
def ORchH (p : Program) (l : Launch) (e : Env) (R : Room) (s : State) (m : MethodId) (args : Array Value) (below : List Frame) (meth : Method) (c : Code) (n0 : Nat) (T : State) (g : JFrame) (g' : JFrame) (cells slots : Nat) (P : Heap → Prop) : Prop :=
  ∃ T' h' locs', Stand p l e R s m args below meth c T' locs' cells slots ∧ T'.heap = h' ∧ Fr n0 locs' ∧ P h' ∧ Goes p e below T g T' g'
def ORchB (p : Program) (l : Launch) (e : Env) (R : Room) (s : State) (m : MethodId) (args : Array Value) (below : List Frame) (meth : Method) (c : Code) (n0 : Nat) (T : State) (g : JFrame) (g' : Addr → JFrame) (cells slots : Nat) (P : Heap → Addr → Prop) : Prop :=
  ∃ b T' h' locs', Stand p l e R s m args below meth c T' locs' cells slots ∧ T'.heap = h' ∧ Fr n0 locs' ∧ P h' b ∧ Goes p e below T g T' (g' b)
section Own
variable {p : Program} {l : Launch} {e : Env} {R : Room} {s : State} {m : MethodId} {args : Array Value} {below : List Frame} {meth : Method} {c : Code} {T T' : State} {locs : List Loc} {cells slots : Nat} {g g' g'' : JFrame} {Q : Option Value → Heap → List Loc → Prop} {kc ks : Nat}
theorem OEnd.go (k : Goes p e below T g T' g') (h : OEnd p e below s T' g' Q kc ks) : OEnd p e below s T g Q kc ks := by
  obtain ⟨s₂, o, h1, h2⟩ := h
  exact ⟨s₂, o, k _ h1, h2⟩
theorem ORch.go {n0 : Nat} {h : Heap} (k : Goes p e below T g T' g') (q : ORch p l e R s m args below meth c n0 T' g' h g'' cells slots) : ORch p l e R s m args below meth c n0 T g h g'' cells slots := by
  obtain ⟨T2, L2, h1, h2, h3, h4⟩ := q
  exact ⟨T2, L2, h1, h2, h3, fun t kt => k _ (h4 t kt)⟩
theorem ORchH.go {n0 : Nat} {P : Heap → Prop} (k : Goes p e below T g T' g') (q : ORchH p l e R s m args below meth c n0 T' g' g'' cells slots P) : ORchH p l e R s m args below meth c n0 T g g'' cells slots P := by
  obtain ⟨T2, h2, L2, h1, h2, h3, h4, h5⟩ := q
  exact ⟨T2, _, L2, h1, h2, h3, h4, fun t kt => k _ (h5 t kt)⟩
theorem ORchB.go {n0 : Nat} {P : Heap → Addr → Prop} {gb : Addr → JFrame} (k : Goes p e below T g T' g') (q : ORchB p l e R s m args below meth c n0 T' g' gb cells slots P) : ORchB p l e R s m args below meth c n0 T g gb cells slots P := by
  obtain ⟨b, T2, h2, L2, h1, h2, h3, h4, h5⟩ := q
  exact ⟨b, T2, _, L2, h1, h2, h3, h4, fun t kt => k _ (h5 t kt)⟩
theorem SGo.go {t : State} (k : Goes p e below T g T' g') (h : Steps p.tables e below (T'.setTop g') t) : Steps p.tables e below (T.setTop g) t := k _ h
theorem own_k {A : Type} {tb : Tables} {f : A → JFrame} {a b : A} {t : State} (q : a = b) (k : Steps tb e below (T.setTop (f a)) t) : Steps tb e below (T.setTop (f b)) t := q ▸ k
theorem own_symm {A : Type} {a b : A} (h : a = b) : b = a := h.symm
theorem own_via {A : Type} {a b c : A} (h : a = b) (k : a = c) : b = c := h.symm.trans k
theorem own_p {A : Type} {P : A → Prop} {a b : A} (q : a = b) (w : P a) : P b := q ▸ w
theorem own_at {h : Heap} {U : Heap} (q : U = h) {P : Heap → Prop} (w : P h) : P U := q ▸ w
theorem OArr.lt {Z : State} {h : Heap} {a : Addr} {ty : FieldType} {n : Int32} {vs : List Value} {d : Value} (F : OArr Z h a ty n vs d) : a < h.size := by obtain ⟨k, V⟩ := F; exact V.lt
theorem OArr.ext {Z : State} {h h' : Heap} {a : Addr} {ty : FieldType} {n : Int32} {vs : List Value} {d : Value} (F : OArr Z h a ty n vs d) (E : Ext h h') : OArr Z h' a ty n vs d := by obtain ⟨k, V⟩ := F; exact ⟨k, V.ext E⟩
theorem OArr.other {Z : State} {h h' : Heap} {a b : Addr} {ty : FieldType} {n : Int32} {vs : List Value} {d v : Value} {sl : Nat} (F : OArr Z h b ty n vs d) (W : Wr h h' a sl v) (q : b ≠ a) : OArr Z h' b ty n vs d := by obtain ⟨k, V⟩ := F; exact ⟨k, V.other W q⟩
theorem OArr.keep {Z : State} {h h' : Heap} {a : Addr} {ty : FieldType} {n : Int32} {vs : List Value} {d : Value} {ws : List Addr} (F : OArr Z h a ty n vs d) (K : Keep h h' ws) (q : a ∉ ws) : OArr Z h' a ty n vs d := by obtain ⟨k, V⟩ := F; exact ⟨k, V.keep K q⟩
theorem OEnd.int (X : Stand p l e R s m args below meth c T locs cells slots) (hx : p.tables.exec = Jvm.exec) {pc : Nat} {Ls : Array Slot} {z : Int32} {rest : List Value} (hret : meth.sig.returnType = some .int) (hlk : meth.locks = false) (hd : decode c.code pc = .ok (.ireturn, 1)) (hq : Q (some (.int z)) T.heap locs) (hc : cells ≤ kc) (hs : slots ≤ ks) :
    OEnd p e below s T (mkF m pc Ls (.int z :: rest)) Q kc ks := by
  obtain ⟨fs, hr, hrun, hended, hW, hsame⟩ := X.leave (v := some (.int z)) (fun h => by rw [hret] at h; cases h) hlk
  exact ⟨_, _, retI X hx hret hd hr, hrun, hended, _, _, rfl, hq, ⟨_, rfl⟩, hW, hsame.mono hc hs⟩
theorem OEnd.nar (X : Stand p l e R s m args below meth c T locs cells slots) (hx : p.tables.exec = Jvm.exec) {pc : Nat} {Ls : Array Slot} {z : Int32} {rest : List Value} {t : FieldType} (hret : meth.sig.returnType = some t) (ht : t = .boolean ∨ t = .byte ∨ t = .char ∨ t = .short) (hlk : meth.locks = false) (hd : decode c.code pc = .ok (.ireturn, 1)) (hq : Q (some (.int (nar t z))) T.heap locs) (hc : cells ≤ kc) (hs : slots ≤ ks) :
    OEnd p e below s T (mkF m pc Ls (.int z :: rest)) Q kc ks := by
  obtain ⟨fs, hr, hrun, hended, hW, hsame⟩ := X.leave (v := some (.int (RoadKit.nar t z))) (fun h => by rw [hret] at h; cases h) hlk
  exact ⟨_, _, retN X hx hret ht hd hr, hrun, hended, _, _, rfl, hq, ⟨_, rfl⟩, hW, hsame.mono hc hs⟩
theorem OEnd.long (X : Stand p l e R s m args below meth c T locs cells slots) (hx : p.tables.exec = Jvm.exec) {pc : Nat} {Ls : Array Slot} {z : Int64} (hret : meth.sig.returnType = some .long) (hlk : meth.locks = false) (hd : decode c.code pc = .ok (.lreturn, 1)) (hq : Q (some (.long z)) T.heap locs) (hc : cells ≤ kc) (hs : slots ≤ ks) :
    OEnd p e below s T (mkF m pc Ls [.long z]) Q kc ks := by
  obtain ⟨fs, hr, hrun, hended, hW, hsame⟩ := X.leave (v := some (.long z)) (fun h => by rw [hret] at h; cases h) hlk
  exact ⟨_, _, X.lreturnOut hx hret hd hr, hrun, hended, _, _, rfl, hq, ⟨_, rfl⟩, hW, hsame.mono hc hs⟩
theorem OEnd.void (X : Stand p l e R s m args below meth c T locs cells slots) (hx : p.tables.exec = Jvm.exec) {pc : Nat} {Ls : Array Slot} (hret : meth.sig.returnType = none) (hlk : meth.locks = false) (hd : decode c.code pc = .ok (.return_, 1)) (hq : Q none T.heap locs) (hc : cells ≤ kc) (hs : slots ≤ ks) :
    OEnd p e below s T (mkF m pc Ls []) Q kc ks := by
  obtain ⟨fs, hr, hrun, hended, hW, hsame⟩ := X.leave (v := none) (fun _ => rfl) hlk
  exact ⟨_, _, X.returnOut hx hret hd hr, hrun, hended, _, _, rfl, hq, ⟨_, rfl⟩, hW, hsame.mono hc hs⟩
end Own
theorem own_rem (x y : Int32) (d : Int) (hy : y.toInt = d) : (0 ≤ x.toInt → (x - (x / y) * y).toInt = x.toInt % d) ∧ (x.toInt < 0 → (x - (x / y) * y).toInt = -((-x.toInt) % d)) := by
  rw [rem_toInt, hy]
  exact tr _ _
theorem own_n0 : nar .boolean (0 : Int32) = 0 := by decide
theorem own_n1 : nar .boolean (1 : Int32) = 1 := by decide
theorem own_lt (x y : Int32) : x < y ↔ x.toInt < y.toInt := Int32.lt_iff_toInt_lt
theorem own_eq (x y : Int32) : x = y ↔ x.toInt = y.toInt := Int32.toInt_inj.symm
theorem own_four (x : Int32) : (x &&& (3 : Int32)) = 0 ∨ (x &&& (3 : Int32)) = 1 ∨ (x &&& (3 : Int32)) = 2 ∨ (x &&& (3 : Int32)) = 3 := by
  have h := c_mask x 3 2 (by decide) (by decide)
  have e0 : (0 : Int32).toInt = 0 := by decide
  have e1 : (1 : Int32).toInt = 1 := by decide
  have e2 : (2 : Int32).toInt = 2 := by decide
  have e3 : (3 : Int32).toInt = 3 := by decide
  simp only [own_eq, e0, e1, e2, e3, h]
  omega
def own_tab : List Int32 := [32, 9, 10, 13, 11, 12, 133, 160, 8232, 12288]
def own_rd (j : Int32) : Int32 := own_tab.getD j.toNatClampNeg 0
theorem own_rdv (j : Int32) : ([(.int (32 : Int32)), (.int (9 : Int32)), (.int (10 : Int32)), (.int (13 : Int32)), (.int (11 : Int32)), (.int (12 : Int32)), (.int (133 : Int32)), (.int (160 : Int32)), (.int (8232 : Int32)), (.int (12288 : Int32))] : List Value).getD j.toNatClampNeg (.int (0 : Int32)) = .int (own_rd j) := by
  unfold own_rd
  generalize j.toNatClampNeg = n
  match n with
  | 0 | 1 | 2 | 3 | 4 | 5 | 6 | 7 | 8 | 9 => rfl
  | _ + 10 => rfl
theorem own_rdb (j : Int32) : 0 ≤ (own_rd j).toInt ∧ (own_rd j).toInt < 65536 := by
  unfold own_rd
  generalize j.toNatClampNeg = n
  match n with
  | 0 | 1 | 2 | 3 | 4 | 5 | 6 | 7 | 8 | 9 => decide
  | n + 10 => exact (by decide : 0 ≤ (0 : Int32).toInt ∧ (0 : Int32).toInt < 65536)
theorem own_ix (y : Int32) : (((y.toUInt32 >>> ((1 : Int32) &&& 31).toUInt32).toInt32) - ((((y.toUInt32 >>> ((1 : Int32) &&& 31).toUInt32).toInt32) / (10 : Int32)) * (10 : Int32))).toInt = ((y.toInt % 4294967296) / ((2 ^ 1 : Nat) : Int)) % 10 := by
  have h := c_iushr y 1 1 (by decide) (by decide)
  have b1 := y.toInt_lt
  have b2 := y.le_toInt
  rw [(own_rem ((y.toUInt32 >>> ((1 : Int32) &&& 31).toUInt32).toInt32) 10 10 (by decide)).1 (by rw [h]; omega), h]
theorem own_i1 (y : Int32) : ¬ ((((y.toUInt32 >>> ((1 : Int32) &&& 31).toUInt32).toInt32) - ((((y.toUInt32 >>> ((1 : Int32) &&& 31).toUInt32).toInt32) / (10 : Int32)) * (10 : Int32))) < 0) := by
  have e : (0 : Int32).toInt = 0 := by decide
  rw [own_lt, own_ix, e]
  omega
theorem own_i2 (y : Int32) : (((y.toUInt32 >>> ((1 : Int32) &&& 31).toUInt32).toInt32) - ((((y.toUInt32 >>> ((1 : Int32) &&& 31).toUInt32).toInt32) / (10 : Int32)) * (10 : Int32))) < (10 : Int32) := by
  have e : (10 : Int32).toInt = 10 := by decide
  rw [own_lt, own_ix, e]
  omega
theorem d1_0 : decode prog_38_method_4_code 0 = .ok (.iload_n 0, 1) := by decide +kernel
theorem d1_1 : decode prog_38_method_4_code 1 = .ok (.bipush 32, 2) := by decide +kernel
theorem d1_3 : decode prog_38_method_4_code 3 = .ok (.if_icmp .eq 21, 3) := by decide +kernel
theorem d1_24 : decode prog_38_method_4_code 24 = .ok (.iconst 1, 1) := by decide +kernel
theorem d1_25 : decode prog_38_method_4_code 25 = .ok (.goto 4, 3) := by decide +kernel
theorem d1_6 : decode prog_38_method_4_code 6 = .ok (.iload_n 0, 1) := by decide +kernel
theorem d1_7 : decode prog_38_method_4_code 7 = .ok (.bipush 9, 2) := by decide +kernel
theorem d1_9 : decode prog_38_method_4_code 9 = .ok (.if_icmp .eq 15, 3) := by decide +kernel
theorem d1_12 : decode prog_38_method_4_code 12 = .ok (.iload_n 0, 1) := by decide +kernel
theorem d1_13 : decode prog_38_method_4_code 13 = .ok (.bipush 10, 2) := by decide +kernel
theorem d1_15 : decode prog_38_method_4_code 15 = .ok (.if_icmp .eq 9, 3) := by decide +kernel
theorem d1_18 : decode prog_38_method_4_code 18 = .ok (.iload_n 0, 1) := by decide +kernel
theorem d1_19 : decode prog_38_method_4_code 19 = .ok (.bipush 13, 2) := by decide +kernel
theorem d1_21 : decode prog_38_method_4_code 21 = .ok (.if_icmp .ne 7, 3) := by decide +kernel
theorem d1_28 : decode prog_38_method_4_code 28 = .ok (.iconst 0, 1) := by decide +kernel
theorem d1_29 : decode prog_38_method_4_code 29 = .ok (.ireturn, 1) := by decide +kernel
def f1 (p0 : Int32) : Int32 := nar .boolean (if p0 = (32 : Int32) then (1 : Int32) else (if p0 = (9 : Int32) then (1 : Int32) else (if p0 = (10 : Int32) then (1 : Int32) else (if p0 = (13 : Int32) then (1 : Int32) else (0 : Int32)))))
theorem pn_com_example_induce_induce_learn_LexicalSpaces : plainName "com/example/induce/induce/learn/LexicalSpaces" = true := by first | (simp [plainName, overriddenIn]; done) | decide +kernel
theorem ef_1 (m : MethodId) (x0 : Int32) : entryFrame m #[(.int x0)] 1 = mkF m 0 #[.val (.int x0)] [] := by first | (simp [entryFrame, mkF, argsToLocals, Value.category]; done) | rfl
def Q1 (Z : State) (p0 : Int32) (h0 : Heap) (n0 : Nat) (v : Option Value) (h : Heap) (L : List Loc) : Prop := v = some (.int (f1 p0)) ∧ Fr n0 L ∧ h = h0
set_option maxRecDepth 65536 in
set_option maxHeartbeats 40000000 in
theorem rm1 (l : Launch) (Z : State) (aZ : Array Value) (hw : ∀ d ∈ tables_1, d.before aZ Z = true) (ws : List Jvm.Cond) (p0 : Int32) (h0 : Heap) (n0 : Nat) (Z0 : n0 ≤ h0.size) :
    MetFree l (⟨"com/example/induce/induce/learn/LexicalSpaces", "isWhitespace", "(C)Z"⟩ : MethodName) (head1 (Jvm.Cond.code (⟨"com/example/induce/induce/learn/LexicalSpaces", "isWhitespace", "(C)Z"⟩ : MethodName) prog_38_method_4_code 1 (some .boolean) :: ws) ({ frames := 0, cells := 0, slots := 0, locals := 0 } : Room)) (fun a U => a = #[(.int p0)] ∧ Z.Warmed39 U.vm ∧ U.heap = h0) (fun _ _ _ _ _ => True) (fun _ U o U' => ∃ v L, o = .returned v ∧ Q1 Z p0 h0 n0 v U'.heap L ∧ FrameEnd U o U' L ({ frames := 0, cells := 0, slots := 0, locals := 0 } : Room).cells ({ frames := 0, cells := 0, slots := 0, locals := 0 } : Room).slots) := by
  refine MetFree.of_bodySF (plainFor_of_name pn_com_example_induce_induce_learn_LexicalSpaces) hisR ?_
  intro p e s m args below meth c s₁ Bd hml0 hP hK
  obtain ⟨rfl, hZ, hh⟩ := hP
  have hx := Bd.exec
  have hby := Bd.bytes
  have hlk : meth.locks = false := BodyLoose.notSynchronized Bd
  have hml : c.maxLocals = 1 := hml0
  have hown : s.vm.findClass "com/example/induce/induce/learn/LexicalSpaces" = some m.cls := findClass_of_methodNamed Bd.named
  have hnm := (name_of_methodNamed Bd.named Bd.method).1
  have X0 : Stand p l e ({ frames := 0, cells := 0, slots := 0, locals := 0 } : Room) s m #[(.int p0)] below meth c s₁ [] 0 0 := Stand.of_body Bd
  have e0 : s₁.heap = h0 := by rw [← hh, Bd.state]; rfl
  have N0 := Fr.nil n0
  show OEnd p e below s s₁ (entryFrame m #[(.int p0)] 1) (Q1 Z p0 h0 n0) ({ frames := 0, cells := 0, slots := 0, locals := 0 } : Room).cells ({ frames := 0, cells := 0, slots := 0, locals := 0 } : Room).slots
  refine OEnd.go (g' := (mkF m 0 #[.val (.int p0)] [])) (fun _ k => castTop (ef_1 m p0) k) ?_
  refine OEnd.go (T' := s₁) (g' := (mkF m 3 #[.val (.int p0)] [(.int (32 : Int32)), (.int p0)])) (fun t k => ?_) ?_
  · show Steps p.tables e below (s₁.setTop (mkF m 0 #[.val (.int p0)] [])) t
    refine XS.iloadN X0.here hx rfl (hb hby d1_0) rfl ?_
    show Steps p.tables e below (s₁.setTop (mkF m 1 #[.val (.int p0)] [(.int p0)])) t
    refine XS.bipush X0.here hx rfl (hb hby d1_1) ?_
    show Steps p.tables e below (s₁.setTop (mkF m 3 #[.val (.int p0)] [(.int (32 : Int32)), (.int p0)])) t
    exact k
  refine OEnd.go (T' := s₁) (g' := (mkF m 29 #[.val (.int p0)] [(.int (if p0 = (32 : Int32) then (1 : Int32) else (if p0 = (9 : Int32) then (1 : Int32) else (if p0 = (10 : Int32) then (1 : Int32) else (if p0 = (13 : Int32) then (1 : Int32) else (0 : Int32))))))])) (fun t k => ?_) ?_
  · show Steps p.tables e below (s₁.setTop (mkF m 3 #[.val (.int p0)] [(.int (32 : Int32)), (.int p0)])) t
    by_cases hc1 : p0 = (32 : Int32)
    · skip
      refine XS.icmpYes X0.here hx rfl (pc0 := 3) (pc' := 24) rfl (hb hby d1_3) rfl (teq (hc1)).1 (by decide) (by decide) ?_
      show Steps p.tables e below (s₁.setTop (mkF m 24 #[.val (.int p0)] [])) t
      refine SGo.go (T' := s₁) (g' := (mkF m 29 #[.val (.int p0)] [(.int (1 : Int32))])) (fun t k => ?_) ?_
      · show Steps p.tables e below (s₁.setTop (mkF m 24 #[.val (.int p0)] [])) t
        refine XS.iconst X0.here hx rfl (hb hby d1_24) ?_
        show Steps p.tables e below (s₁.setTop (mkF m 25 #[.val (.int p0)] [(.int (1 : Int32))])) t
        refine XS.goto X0.here hx rfl (pc0 := 25) (pc' := 29) rfl (hb hby d1_25) (by decide) (by decide) ?_
        show Steps p.tables e below (s₁.setTop (mkF m 29 #[.val (.int p0)] [(.int (1 : Int32))])) t
        exact k
      exact (own_k (f := fun (z : Int32) => mkF m 29 #[.val (.int p0)] [(.int z)]) (if_pos hc1) k)
    · skip
      refine XS.icmpNo X0.here hx rfl (hb hby d1_3) rfl (feq (hc1)).1 ?_
      show Steps p.tables e below (s₁.setTop (mkF m 6 #[.val (.int p0)] [])) t
      refine SGo.go (T' := s₁) (g' := (mkF m 9 #[.val (.int p0)] [(.int (9 : Int32)), (.int p0)])) (fun t k => ?_) ?_
      · show Steps p.tables e below (s₁.setTop (mkF m 6 #[.val (.int p0)] [])) t
        refine XS.iloadN X0.here hx rfl (hb hby d1_6) rfl ?_
        show Steps p.tables e below (s₁.setTop (mkF m 7 #[.val (.int p0)] [(.int p0)])) t
        refine XS.bipush X0.here hx rfl (hb hby d1_7) ?_
        show Steps p.tables e below (s₁.setTop (mkF m 9 #[.val (.int p0)] [(.int (9 : Int32)), (.int p0)])) t
        exact k
      by_cases hc2 : p0 = (9 : Int32)
      · skip
        refine XS.icmpYes X0.here hx rfl (pc0 := 9) (pc' := 24) rfl (hb hby d1_9) rfl (teq (hc2)).1 (by decide) (by decide) ?_
        show Steps p.tables e below (s₁.setTop (mkF m 24 #[.val (.int p0)] [])) t
        refine SGo.go (T' := s₁) (g' := (mkF m 29 #[.val (.int p0)] [(.int (1 : Int32))])) (fun t k => ?_) ?_
        · show Steps p.tables e below (s₁.setTop (mkF m 24 #[.val (.int p0)] [])) t
          refine XS.iconst X0.here hx rfl (hb hby d1_24) ?_
          show Steps p.tables e below (s₁.setTop (mkF m 25 #[.val (.int p0)] [(.int (1 : Int32))])) t
          refine XS.goto X0.here hx rfl (pc0 := 25) (pc' := 29) rfl (hb hby d1_25) (by decide) (by decide) ?_
          show Steps p.tables e below (s₁.setTop (mkF m 29 #[.val (.int p0)] [(.int (1 : Int32))])) t
          exact k
        exact (own_k (f := fun (z : Int32) => mkF m 29 #[.val (.int p0)] [(.int z)]) ((if_neg hc1).trans (if_pos hc2)) k)
      · skip
        refine XS.icmpNo X0.here hx rfl (hb hby d1_9) rfl (feq (hc2)).1 ?_
        show Steps p.tables e below (s₁.setTop (mkF m 12 #[.val (.int p0)] [])) t
        refine SGo.go (T' := s₁) (g' := (mkF m 15 #[.val (.int p0)] [(.int (10 : Int32)), (.int p0)])) (fun t k => ?_) ?_
        · show Steps p.tables e below (s₁.setTop (mkF m 12 #[.val (.int p0)] [])) t
          refine XS.iloadN X0.here hx rfl (hb hby d1_12) rfl ?_
          show Steps p.tables e below (s₁.setTop (mkF m 13 #[.val (.int p0)] [(.int p0)])) t
          refine XS.bipush X0.here hx rfl (hb hby d1_13) ?_
          show Steps p.tables e below (s₁.setTop (mkF m 15 #[.val (.int p0)] [(.int (10 : Int32)), (.int p0)])) t
          exact k
        by_cases hc3 : p0 = (10 : Int32)
        · skip
          refine XS.icmpYes X0.here hx rfl (pc0 := 15) (pc' := 24) rfl (hb hby d1_15) rfl (teq (hc3)).1 (by decide) (by decide) ?_
          show Steps p.tables e below (s₁.setTop (mkF m 24 #[.val (.int p0)] [])) t
          refine SGo.go (T' := s₁) (g' := (mkF m 29 #[.val (.int p0)] [(.int (1 : Int32))])) (fun t k => ?_) ?_
          · show Steps p.tables e below (s₁.setTop (mkF m 24 #[.val (.int p0)] [])) t
            refine XS.iconst X0.here hx rfl (hb hby d1_24) ?_
            show Steps p.tables e below (s₁.setTop (mkF m 25 #[.val (.int p0)] [(.int (1 : Int32))])) t
            refine XS.goto X0.here hx rfl (pc0 := 25) (pc' := 29) rfl (hb hby d1_25) (by decide) (by decide) ?_
            show Steps p.tables e below (s₁.setTop (mkF m 29 #[.val (.int p0)] [(.int (1 : Int32))])) t
            exact k
          exact (own_k (f := fun (z : Int32) => mkF m 29 #[.val (.int p0)] [(.int z)]) ((if_neg hc1).trans ((if_neg hc2).trans (if_pos hc3))) k)
        · skip
          refine XS.icmpNo X0.here hx rfl (hb hby d1_15) rfl (feq (hc3)).1 ?_
          show Steps p.tables e below (s₁.setTop (mkF m 18 #[.val (.int p0)] [])) t
          refine SGo.go (T' := s₁) (g' := (mkF m 21 #[.val (.int p0)] [(.int (13 : Int32)), (.int p0)])) (fun t k => ?_) ?_
          · show Steps p.tables e below (s₁.setTop (mkF m 18 #[.val (.int p0)] [])) t
            refine XS.iloadN X0.here hx rfl (hb hby d1_18) rfl ?_
            show Steps p.tables e below (s₁.setTop (mkF m 19 #[.val (.int p0)] [(.int p0)])) t
            refine XS.bipush X0.here hx rfl (hb hby d1_19) ?_
            show Steps p.tables e below (s₁.setTop (mkF m 21 #[.val (.int p0)] [(.int (13 : Int32)), (.int p0)])) t
            exact k
          by_cases hc4 : p0 = (13 : Int32)
          · skip
            refine XS.icmpNo X0.here hx rfl (hb hby d1_21) rfl (teq (hc4)).2 ?_
            show Steps p.tables e below (s₁.setTop (mkF m 24 #[.val (.int p0)] [])) t
            refine SGo.go (T' := s₁) (g' := (mkF m 29 #[.val (.int p0)] [(.int (1 : Int32))])) (fun t k => ?_) ?_
            · show Steps p.tables e below (s₁.setTop (mkF m 24 #[.val (.int p0)] [])) t
              refine XS.iconst X0.here hx rfl (hb hby d1_24) ?_
              show Steps p.tables e below (s₁.setTop (mkF m 25 #[.val (.int p0)] [(.int (1 : Int32))])) t
              refine XS.goto X0.here hx rfl (pc0 := 25) (pc' := 29) rfl (hb hby d1_25) (by decide) (by decide) ?_
              show Steps p.tables e below (s₁.setTop (mkF m 29 #[.val (.int p0)] [(.int (1 : Int32))])) t
              exact k
            exact (own_k (f := fun (z : Int32) => mkF m 29 #[.val (.int p0)] [(.int z)]) ((if_neg hc1).trans ((if_neg hc2).trans ((if_neg hc3).trans (if_pos hc4)))) k)
          · skip
            refine XS.icmpYes X0.here hx rfl (pc0 := 21) (pc' := 28) rfl (hb hby d1_21) rfl (feq (hc4)).2 (by decide) (by decide) ?_
            show Steps p.tables e below (s₁.setTop (mkF m 28 #[.val (.int p0)] [])) t
            refine SGo.go (T' := s₁) (g' := (mkF m 29 #[.val (.int p0)] [(.int (0 : Int32))])) (fun t k => ?_) ?_
            · show Steps p.tables e below (s₁.setTop (mkF m 28 #[.val (.int p0)] [])) t
              refine XS.iconst X0.here hx rfl (hb hby d1_28) ?_
              show Steps p.tables e below (s₁.setTop (mkF m 29 #[.val (.int p0)] [(.int (0 : Int32))])) t
              exact k
            exact (own_k (f := fun (z : Int32) => mkF m 29 #[.val (.int p0)] [(.int z)]) ((if_neg hc1).trans ((if_neg hc2).trans ((if_neg hc3).trans (if_neg hc4)))) k)
  exact OEnd.nar X0 hx (t := .boolean) Bd.returns (by simp) hlk (hb hby d1_29) ⟨rfl, N0, e0⟩ (by decide) (by decide)
theorem pd__C_Z : parseMethodDescriptor "(C)Z" = some ⟨[.char], some .boolean⟩ := by decide +kernel
def v0_83 (p0 : Int32) (p1 : Int32) : Int32 := (own_rd (((p1.toUInt32 >>> ((1 : Int32) &&& 31).toUInt32).toInt32) - (((p1.toUInt32 >>> ((1 : Int32) &&& 31).toUInt32).toInt32) / (10 : Int32)) * (10 : Int32)))
def v0_71 (p0 : Int32) (p1 : Int32) : Int32 := (p0.toUInt32.toUInt16.toUInt32.toInt32)
def v0_84_3 (p0 : Int32) (p1 : Int32) : Int32 := (if (p1 &&& (1 : Int32)) = (0 : Int32) then (v0_83 p0 p1) else (v0_71 p0 p1))
def v0_111 (p0 : Int32) (p1 : Int32) : Int32 := (if (32 : Int32) < (v0_84_3 p0 p1) then (0 : Int32) else (if ((((4294977024 : Int64).toUInt64 >>> ((v0_84_3 p0 p1) &&& 0x3f).toInt64.toUInt64).toInt64) &&& (1 : Int64)) = (0 : Int64) then (0 : Int32) else (1 : Int32)))
def la0_0 (p0 : Int32) (p1 : Int32) (b0_2 : Addr) : Array Slot := #[.val (.int p0), .val (.int p1), .val (.ref b0_2), .val (.int (if (p1 &&& (1 : Int32)) = (0 : Int32) then (v0_83 p0 p1) else (v0_71 p0 p1))), .unset, .unset, .unset]
def f0 (p0 : Int32) (p1 : Int32) : Int32 := (if (f1 (v0_84_3 p0 p1)) = (v0_111 p0 p1) then (1 : Int32) else (0 : Int32))
def own_exp (c : Int32) : Int32 := (if (32 : Int32) < c then (0 : Int32) else (if ((((4294977024 : Int64).toUInt64 >>> (c &&& 0x3f).toInt64.toUInt64).toInt64) &&& (1 : Int64)) = (0 : Int64) then (0 : Int32) else (1 : Int32)))
theorem own_small : ∀ k : Fin 33, f1 (Int32.ofNat k.val) = own_exp (Int32.ofNat k.val) := by decide +kernel
theorem own_key {c : Int32} (h1 : 0 ≤ c.toInt) : f1 c = own_exp c := by
  by_cases h : c.toInt < 33
  · obtain ⟨k, hk⟩ : ∃ k : Nat, c.toInt = (k : Int) := ⟨c.toInt.toNat, by omega⟩
    have hc : c = Int32.ofNat k := by
      rw [own_eq, hk]
      exact (Int32.toInt_ofNat_of_lt (by omega)).symm
    rw [hc]
    exact own_small ⟨k, by omega⟩
  · have e32 : (32 : Int32).toInt = 32 := by decide
    have e9 : (9 : Int32).toInt = 9 := by decide
    have e10 : (10 : Int32).toInt = 10 := by decide
    have e13 : (13 : Int32).toInt = 13 := by decide
    have g : (32 : Int32) < c := by rw [own_lt, e32]; omega
    have n1 : ¬ (c = (32 : Int32)) := by rw [own_eq, e32]; omega
    have n2 : ¬ (c = (9 : Int32)) := by rw [own_eq, e9]; omega
    have n3 : ¬ (c = (10 : Int32)) := by rw [own_eq, e10]; omega
    have n4 : ¬ (c = (13 : Int32)) := by rw [own_eq, e13]; omega
    unfold f1 own_exp
    rw [if_pos g, if_neg n1, if_neg n2, if_neg n3, if_neg n4, own_n0]
theorem own_plain (x y : Int32) : f0 x y = 1 := by
  have hc : 0 ≤ (v0_84_3 x y).toInt := by
    unfold v0_84_3
    split
    · exact (own_rdb _).1
    · exact (c_i2c x).2.1
  unfold f0
  rw [if_pos]
  exact own_key hc
theorem pn_com_example_induce_induce_learn_LexicalSpacesIsWhitespacePinLaw : plainName "com/example/induce/induce/learn/LexicalSpacesIsWhitespacePinLaw" = true := by first | (simp [plainName, overriddenIn]; done) | decide +kernel
theorem ef_0 (m : MethodId) (x0 : Int32) (x1 : Int32) : entryFrame m #[(.int x0), (.int x1)] maxLocals = mkF m 0 #[.val (.int x0), .val (.int x1), .unset, .unset, .unset, .unset, .unset] [] := by first | (simp [entryFrame, mkF, argsToLocals, Value.category, maxLocals]; done) | rfl
def Q0 (Z : State) (p0 : Int32) (p1 : Int32) (h0 : Heap) (n0 : Nat) (v : Option Value) (h : Heap) (L : List Loc) : Prop := v = some (.int 1) ∧ Fr n0 L
set_option maxRecDepth 65536 in
set_option maxHeartbeats 40000000 in
theorem rm0 (l : Launch) (Z : State) (aZ : Array Value) (hw : ∀ d ∈ tables_1, d.before aZ Z = true) (ws : List Jvm.Cond) (p0 : Int32) (p1 : Int32) (h0 : Heap) (n0 : Nat) (Z0 : n0 ≤ h0.size) :
    MetFree l x (head1 (Jvm.Cond.code x code maxLocals ret :: ws) room_1) (fun a U => a = #[(.int p0), (.int p1)] ∧ Z.Warmed39 U.vm ∧ U.heap = h0) (fun _ _ _ _ _ => True) (fun _ U o U' => ∃ v L, o = .returned v ∧ Q0 Z p0 p1 h0 n0 v U'.heap L ∧ FrameEnd U o U' L room_1.cells room_1.slots) := by
  refine MetFree.of_bodySF (plainFor_of_name pn_com_example_induce_induce_learn_LexicalSpacesIsWhitespacePinLaw) hisR ?_
  intro p e s m args below meth c s₁ Bd hml0 hP hK
  obtain ⟨rfl, hZ, hh⟩ := hP
  have hx := Bd.exec
  have hby := Bd.bytes
  have hlk : meth.locks = false := BodyLoose.notSynchronized Bd
  have hml : c.maxLocals = 7 := hml0
  have hown : s.vm.findClass "com/example/induce/induce/learn/LexicalSpacesIsWhitespacePinLaw" = some m.cls := findClass_of_methodNamed Bd.named
  have hnm := (name_of_methodNamed Bd.named Bd.method).1
  have X0 : Stand p l e room_1 s m #[(.int p0), (.int p1)] below meth c s₁ [] 0 0 := Stand.of_body Bd
  have e0 : s₁.heap = h0 := by rw [← hh, Bd.state]; rfl
  have N0 := Fr.nil n0
  show OEnd p e below s s₁ (entryFrame m #[(.int p0), (.int p1)] maxLocals) (Q0 Z p0 p1 h0 n0) room_1.cells room_1.slots
  refine OEnd.go (g' := (mkF m 0 #[.val (.int p0), .val (.int p1), .unset, .unset, .unset, .unset, .unset] [])) (fun _ k => castTop (ef_0 m p0 p1) k) ?_
  refine OEnd.go (T' := s₁) (g' := (mkF m 2 #[.val (.int p0), .val (.int p1), .unset, .unset, .unset, .unset, .unset] [(.int (10 : Int32))])) (fun t k => ?_) ?_
  · show Steps p.tables e below (s₁.setTop (mkF m 0 #[.val (.int p0), .val (.int p1), .unset, .unset, .unset, .unset, .unset] [])) t
    refine XS.bipush X0.here hx rfl (hb hby at_0) ?_
    show Steps p.tables e below (s₁.setTop (mkF m 2 #[.val (.int p0), .val (.int p1), .unset, .unset, .unset, .unset, .unset] [(.int (10 : Int32))])) t
    exact k
  obtain ⟨T1, h1, k1, X1, e1, E1, A1, st1⟩ := newP X0 hx hZ (hw _ (List.mem_of_getElem? (i := 0) rfl)) e0 (g := (mkF m 2 #[.val (.int p0), .val (.int p1), .unset, .unset, .unset, .unset, .unset] [(.int (10 : Int32))])) rfl (hb hby at_2) rfl (by decide) (cap := 10) (by decide) (by decide) (by decide) (by decide)
  obtain ⟨b0_2, g1⟩ : ∃ z, z = h0.size := ⟨_, rfl⟩
  rw [← g1] at A1 st1
  have gle_b0_2 : n0 ≤ b0_2 := Nat.le_trans Z0 (Nat.le_of_eq g1.symm)
  have Z1 : n0 ≤ h1.size := Nat.le_trans Z0 E1.1
  have V1 : OArr Z h1 b0_2 .char (10 : Int32) [(.int (0 : Int32)), (.int (0 : Int32)), (.int (0 : Int32)), (.int (0 : Int32)), (.int (0 : Int32)), (.int (0 : Int32)), (.int (0 : Int32)), (.int (0 : Int32)), (.int (0 : Int32)), (.int (0 : Int32))] (.int (0 : Int32)) := ⟨_, (Arv.new A1 (by decide)).pad (pad_rep [] (.int (0 : Int32)) 10)⟩
  refine OEnd.go (g' := (mkF m 4 #[.val (.int p0), .val (.int p1), .unset, .unset, .unset, .unset, .unset] [(.ref b0_2)])) st1 ?_
  refine OEnd.go (T' := T1) (g' := (mkF m 8 #[.val (.int p0), .val (.int p1), .unset, .unset, .unset, .unset, .unset] [(.int (32 : Int32)), (.int (0 : Int32)), (.ref b0_2), (.ref b0_2)])) (fun t k => ?_) ?_
  · show Steps p.tables e below (T1.setTop (mkF m 4 #[.val (.int p0), .val (.int p1), .unset, .unset, .unset, .unset, .unset] [(.ref b0_2)])) t
    refine XS.dup X1.here hx rfl (hb hby at_4) rfl rfl ?_
    show Steps p.tables e below (T1.setTop (mkF m 5 #[.val (.int p0), .val (.int p1), .unset, .unset, .unset, .unset, .unset] [(.ref b0_2), (.ref b0_2)])) t
    refine XS.iconst X1.here hx rfl (hb hby at_5) ?_
    show Steps p.tables e below (T1.setTop (mkF m 6 #[.val (.int p0), .val (.int p1), .unset, .unset, .unset, .unset, .unset] [(.int (0 : Int32)), (.ref b0_2), (.ref b0_2)])) t
    refine XS.bipush X1.here hx rfl (hb hby at_6) ?_
    show Steps p.tables e below (T1.setTop (mkF m 8 #[.val (.int p0), .val (.int p1), .unset, .unset, .unset, .unset, .unset] [(.int (32 : Int32)), (.int (0 : Int32)), (.ref b0_2), (.ref b0_2)])) t
    exact k
  obtain ⟨kc2, cl2, Ar2, q2, S2, M2, H2, G2⟩ := V1
  have hin2 : ¬ ((0 : Int32) < 0 ∨ cl2.slots.size ≤ ((0 : Int32)).toNatClampNeg) := inb_of S2 ⟨by decide, by decide⟩
  obtain ⟨T2, h2, X2, e2, W2, st2⟩ := stC X1 hx hZ e1 Ar2 (j := (0 : Int32)) hin2 (g := (mkF m 8 #[.val (.int p0), .val (.int p1), .unset, .unset, .unset, .unset, .unset] [(.int (32 : Int32)), (.int (0 : Int32)), (.ref b0_2), (.ref b0_2)])) rfl rfl (hb hby at_8)
  have N2 := Fr.snoc X2 N0 gle_b0_2
  have Z2 : n0 ≤ h2.size := Nat.le_trans Z1 (Keep.of_wr W2).1
  have V2 : OArr Z h2 b0_2 .char (10 : Int32) [(.int (32 : Int32)), (.int (0 : Int32)), (.int (0 : Int32)), (.int (0 : Int32)), (.int (0 : Int32)), (.int (0 : Int32)), (.int (0 : Int32)), (.int (0 : Int32)), (.int (0 : Int32)), (.int (0 : Int32))] (.int (0 : Int32)) := ⟨_, Arv.set Ar2 q2 S2 M2 H2 G2 (fits_nar_char _) W2 0 rfl (Nat.le_of_ble_eq_true rfl)⟩
  refine OEnd.go (g' := (mkF m 9 #[.val (.int p0), .val (.int p1), .unset, .unset, .unset, .unset, .unset] [(.ref b0_2)])) st2 ?_
  refine OEnd.go (T' := T2) (g' := (mkF m 13 #[.val (.int p0), .val (.int p1), .unset, .unset, .unset, .unset, .unset] [(.int (9 : Int32)), (.int (1 : Int32)), (.ref b0_2), (.ref b0_2)])) (fun t k => ?_) ?_
  · show Steps p.tables e below (T2.setTop (mkF m 9 #[.val (.int p0), .val (.int p1), .unset, .unset, .unset, .unset, .unset] [(.ref b0_2)])) t
    refine XS.dup X2.here hx rfl (hb hby at_9) rfl rfl ?_
    show Steps p.tables e below (T2.setTop (mkF m 10 #[.val (.int p0), .val (.int p1), .unset, .unset, .unset, .unset, .unset] [(.ref b0_2), (.ref b0_2)])) t
    refine XS.iconst X2.here hx rfl (hb hby at_10) ?_
    show Steps p.tables e below (T2.setTop (mkF m 11 #[.val (.int p0), .val (.int p1), .unset, .unset, .unset, .unset, .unset] [(.int (1 : Int32)), (.ref b0_2), (.ref b0_2)])) t
    refine XS.bipush X2.here hx rfl (hb hby at_11) ?_
    show Steps p.tables e below (T2.setTop (mkF m 13 #[.val (.int p0), .val (.int p1), .unset, .unset, .unset, .unset, .unset] [(.int (9 : Int32)), (.int (1 : Int32)), (.ref b0_2), (.ref b0_2)])) t
    exact k
  obtain ⟨kc3, cl3, Ar3, q3, S3, M3, H3, G3⟩ := V2
  have hin3 : ¬ ((1 : Int32) < 0 ∨ cl3.slots.size ≤ ((1 : Int32)).toNatClampNeg) := inb_of S3 ⟨by decide, by decide⟩
  obtain ⟨T3, h3, X3, e3, W3, st3⟩ := stC X2 hx hZ e2 Ar3 (j := (1 : Int32)) hin3 (g := (mkF m 13 #[.val (.int p0), .val (.int p1), .unset, .unset, .unset, .unset, .unset] [(.int (9 : Int32)), (.int (1 : Int32)), (.ref b0_2), (.ref b0_2)])) rfl rfl (hb hby at_13)
  have N3 := Fr.snoc X3 N2 gle_b0_2
  have Z3 : n0 ≤ h3.size := Nat.le_trans Z2 (Keep.of_wr W3).1
  have V3 : OArr Z h3 b0_2 .char (10 : Int32) [(.int (32 : Int32)), (.int (9 : Int32)), (.int (0 : Int32)), (.int (0 : Int32)), (.int (0 : Int32)), (.int (0 : Int32)), (.int (0 : Int32)), (.int (0 : Int32)), (.int (0 : Int32)), (.int (0 : Int32))] (.int (0 : Int32)) := ⟨_, Arv.set Ar3 q3 S3 M3 H3 G3 (fits_nar_char _) W3 1 rfl (Nat.le_of_ble_eq_true rfl)⟩
  refine OEnd.go (g' := (mkF m 14 #[.val (.int p0), .val (.int p1), .unset, .unset, .unset, .unset, .unset] [(.ref b0_2)])) st3 ?_
  refine OEnd.go (T' := T3) (g' := (mkF m 18 #[.val (.int p0), .val (.int p1), .unset, .unset, .unset, .unset, .unset] [(.int (10 : Int32)), (.int (2 : Int32)), (.ref b0_2), (.ref b0_2)])) (fun t k => ?_) ?_
  · show Steps p.tables e below (T3.setTop (mkF m 14 #[.val (.int p0), .val (.int p1), .unset, .unset, .unset, .unset, .unset] [(.ref b0_2)])) t
    refine XS.dup X3.here hx rfl (hb hby at_14) rfl rfl ?_
    show Steps p.tables e below (T3.setTop (mkF m 15 #[.val (.int p0), .val (.int p1), .unset, .unset, .unset, .unset, .unset] [(.ref b0_2), (.ref b0_2)])) t
    refine XS.iconst X3.here hx rfl (hb hby at_15) ?_
    show Steps p.tables e below (T3.setTop (mkF m 16 #[.val (.int p0), .val (.int p1), .unset, .unset, .unset, .unset, .unset] [(.int (2 : Int32)), (.ref b0_2), (.ref b0_2)])) t
    refine XS.bipush X3.here hx rfl (hb hby at_16) ?_
    show Steps p.tables e below (T3.setTop (mkF m 18 #[.val (.int p0), .val (.int p1), .unset, .unset, .unset, .unset, .unset] [(.int (10 : Int32)), (.int (2 : Int32)), (.ref b0_2), (.ref b0_2)])) t
    exact k
  obtain ⟨kc4, cl4, Ar4, q4, S4, M4, H4, G4⟩ := V3
  have hin4 : ¬ ((2 : Int32) < 0 ∨ cl4.slots.size ≤ ((2 : Int32)).toNatClampNeg) := inb_of S4 ⟨by decide, by decide⟩
  obtain ⟨T4, h4, X4, e4, W4, st4⟩ := stC X3 hx hZ e3 Ar4 (j := (2 : Int32)) hin4 (g := (mkF m 18 #[.val (.int p0), .val (.int p1), .unset, .unset, .unset, .unset, .unset] [(.int (10 : Int32)), (.int (2 : Int32)), (.ref b0_2), (.ref b0_2)])) rfl rfl (hb hby at_18)
  have N4 := Fr.snoc X4 N3 gle_b0_2
  have Z4 : n0 ≤ h4.size := Nat.le_trans Z3 (Keep.of_wr W4).1
  have V4 : OArr Z h4 b0_2 .char (10 : Int32) [(.int (32 : Int32)), (.int (9 : Int32)), (.int (10 : Int32)), (.int (0 : Int32)), (.int (0 : Int32)), (.int (0 : Int32)), (.int (0 : Int32)), (.int (0 : Int32)), (.int (0 : Int32)), (.int (0 : Int32))] (.int (0 : Int32)) := ⟨_, Arv.set Ar4 q4 S4 M4 H4 G4 (fits_nar_char _) W4 2 rfl (Nat.le_of_ble_eq_true rfl)⟩
  refine OEnd.go (g' := (mkF m 19 #[.val (.int p0), .val (.int p1), .unset, .unset, .unset, .unset, .unset] [(.ref b0_2)])) st4 ?_
  refine OEnd.go (T' := T4) (g' := (mkF m 23 #[.val (.int p0), .val (.int p1), .unset, .unset, .unset, .unset, .unset] [(.int (13 : Int32)), (.int (3 : Int32)), (.ref b0_2), (.ref b0_2)])) (fun t k => ?_) ?_
  · show Steps p.tables e below (T4.setTop (mkF m 19 #[.val (.int p0), .val (.int p1), .unset, .unset, .unset, .unset, .unset] [(.ref b0_2)])) t
    refine XS.dup X4.here hx rfl (hb hby at_19) rfl rfl ?_
    show Steps p.tables e below (T4.setTop (mkF m 20 #[.val (.int p0), .val (.int p1), .unset, .unset, .unset, .unset, .unset] [(.ref b0_2), (.ref b0_2)])) t
    refine XS.iconst X4.here hx rfl (hb hby at_20) ?_
    show Steps p.tables e below (T4.setTop (mkF m 21 #[.val (.int p0), .val (.int p1), .unset, .unset, .unset, .unset, .unset] [(.int (3 : Int32)), (.ref b0_2), (.ref b0_2)])) t
    refine XS.bipush X4.here hx rfl (hb hby at_21) ?_
    show Steps p.tables e below (T4.setTop (mkF m 23 #[.val (.int p0), .val (.int p1), .unset, .unset, .unset, .unset, .unset] [(.int (13 : Int32)), (.int (3 : Int32)), (.ref b0_2), (.ref b0_2)])) t
    exact k
  obtain ⟨kc5, cl5, Ar5, q5, S5, M5, H5, G5⟩ := V4
  have hin5 : ¬ ((3 : Int32) < 0 ∨ cl5.slots.size ≤ ((3 : Int32)).toNatClampNeg) := inb_of S5 ⟨by decide, by decide⟩
  obtain ⟨T5, h5, X5, e5, W5, st5⟩ := stC X4 hx hZ e4 Ar5 (j := (3 : Int32)) hin5 (g := (mkF m 23 #[.val (.int p0), .val (.int p1), .unset, .unset, .unset, .unset, .unset] [(.int (13 : Int32)), (.int (3 : Int32)), (.ref b0_2), (.ref b0_2)])) rfl rfl (hb hby at_23)
  have N5 := Fr.snoc X5 N4 gle_b0_2
  have Z5 : n0 ≤ h5.size := Nat.le_trans Z4 (Keep.of_wr W5).1
  have V5 : OArr Z h5 b0_2 .char (10 : Int32) [(.int (32 : Int32)), (.int (9 : Int32)), (.int (10 : Int32)), (.int (13 : Int32)), (.int (0 : Int32)), (.int (0 : Int32)), (.int (0 : Int32)), (.int (0 : Int32)), (.int (0 : Int32)), (.int (0 : Int32))] (.int (0 : Int32)) := ⟨_, Arv.set Ar5 q5 S5 M5 H5 G5 (fits_nar_char _) W5 3 rfl (Nat.le_of_ble_eq_true rfl)⟩
  refine OEnd.go (g' := (mkF m 24 #[.val (.int p0), .val (.int p1), .unset, .unset, .unset, .unset, .unset] [(.ref b0_2)])) st5 ?_
  refine OEnd.go (T' := T5) (g' := (mkF m 28 #[.val (.int p0), .val (.int p1), .unset, .unset, .unset, .unset, .unset] [(.int (11 : Int32)), (.int (4 : Int32)), (.ref b0_2), (.ref b0_2)])) (fun t k => ?_) ?_
  · show Steps p.tables e below (T5.setTop (mkF m 24 #[.val (.int p0), .val (.int p1), .unset, .unset, .unset, .unset, .unset] [(.ref b0_2)])) t
    refine XS.dup X5.here hx rfl (hb hby at_24) rfl rfl ?_
    show Steps p.tables e below (T5.setTop (mkF m 25 #[.val (.int p0), .val (.int p1), .unset, .unset, .unset, .unset, .unset] [(.ref b0_2), (.ref b0_2)])) t
    refine XS.iconst X5.here hx rfl (hb hby at_25) ?_
    show Steps p.tables e below (T5.setTop (mkF m 26 #[.val (.int p0), .val (.int p1), .unset, .unset, .unset, .unset, .unset] [(.int (4 : Int32)), (.ref b0_2), (.ref b0_2)])) t
    refine XS.bipush X5.here hx rfl (hb hby at_26) ?_
    show Steps p.tables e below (T5.setTop (mkF m 28 #[.val (.int p0), .val (.int p1), .unset, .unset, .unset, .unset, .unset] [(.int (11 : Int32)), (.int (4 : Int32)), (.ref b0_2), (.ref b0_2)])) t
    exact k
  obtain ⟨kc6, cl6, Ar6, q6, S6, M6, H6, G6⟩ := V5
  have hin6 : ¬ ((4 : Int32) < 0 ∨ cl6.slots.size ≤ ((4 : Int32)).toNatClampNeg) := inb_of S6 ⟨by decide, by decide⟩
  obtain ⟨T6, h6, X6, e6, W6, st6⟩ := stC X5 hx hZ e5 Ar6 (j := (4 : Int32)) hin6 (g := (mkF m 28 #[.val (.int p0), .val (.int p1), .unset, .unset, .unset, .unset, .unset] [(.int (11 : Int32)), (.int (4 : Int32)), (.ref b0_2), (.ref b0_2)])) rfl rfl (hb hby at_28)
  have N6 := Fr.snoc X6 N5 gle_b0_2
  have Z6 : n0 ≤ h6.size := Nat.le_trans Z5 (Keep.of_wr W6).1
  have V6 : OArr Z h6 b0_2 .char (10 : Int32) [(.int (32 : Int32)), (.int (9 : Int32)), (.int (10 : Int32)), (.int (13 : Int32)), (.int (11 : Int32)), (.int (0 : Int32)), (.int (0 : Int32)), (.int (0 : Int32)), (.int (0 : Int32)), (.int (0 : Int32))] (.int (0 : Int32)) := ⟨_, Arv.set Ar6 q6 S6 M6 H6 G6 (fits_nar_char _) W6 4 rfl (Nat.le_of_ble_eq_true rfl)⟩
  refine OEnd.go (g' := (mkF m 29 #[.val (.int p0), .val (.int p1), .unset, .unset, .unset, .unset, .unset] [(.ref b0_2)])) st6 ?_
  refine OEnd.go (T' := T6) (g' := (mkF m 33 #[.val (.int p0), .val (.int p1), .unset, .unset, .unset, .unset, .unset] [(.int (12 : Int32)), (.int (5 : Int32)), (.ref b0_2), (.ref b0_2)])) (fun t k => ?_) ?_
  · show Steps p.tables e below (T6.setTop (mkF m 29 #[.val (.int p0), .val (.int p1), .unset, .unset, .unset, .unset, .unset] [(.ref b0_2)])) t
    refine XS.dup X6.here hx rfl (hb hby at_29) rfl rfl ?_
    show Steps p.tables e below (T6.setTop (mkF m 30 #[.val (.int p0), .val (.int p1), .unset, .unset, .unset, .unset, .unset] [(.ref b0_2), (.ref b0_2)])) t
    refine XS.iconst X6.here hx rfl (hb hby at_30) ?_
    show Steps p.tables e below (T6.setTop (mkF m 31 #[.val (.int p0), .val (.int p1), .unset, .unset, .unset, .unset, .unset] [(.int (5 : Int32)), (.ref b0_2), (.ref b0_2)])) t
    refine XS.bipush X6.here hx rfl (hb hby at_31) ?_
    show Steps p.tables e below (T6.setTop (mkF m 33 #[.val (.int p0), .val (.int p1), .unset, .unset, .unset, .unset, .unset] [(.int (12 : Int32)), (.int (5 : Int32)), (.ref b0_2), (.ref b0_2)])) t
    exact k
  obtain ⟨kc7, cl7, Ar7, q7, S7, M7, H7, G7⟩ := V6
  have hin7 : ¬ ((5 : Int32) < 0 ∨ cl7.slots.size ≤ ((5 : Int32)).toNatClampNeg) := inb_of S7 ⟨by decide, by decide⟩
  obtain ⟨T7, h7, X7, e7, W7, st7⟩ := stC X6 hx hZ e6 Ar7 (j := (5 : Int32)) hin7 (g := (mkF m 33 #[.val (.int p0), .val (.int p1), .unset, .unset, .unset, .unset, .unset] [(.int (12 : Int32)), (.int (5 : Int32)), (.ref b0_2), (.ref b0_2)])) rfl rfl (hb hby at_33)
  have N7 := Fr.snoc X7 N6 gle_b0_2
  have Z7 : n0 ≤ h7.size := Nat.le_trans Z6 (Keep.of_wr W7).1
  have V7 : OArr Z h7 b0_2 .char (10 : Int32) [(.int (32 : Int32)), (.int (9 : Int32)), (.int (10 : Int32)), (.int (13 : Int32)), (.int (11 : Int32)), (.int (12 : Int32)), (.int (0 : Int32)), (.int (0 : Int32)), (.int (0 : Int32)), (.int (0 : Int32))] (.int (0 : Int32)) := ⟨_, Arv.set Ar7 q7 S7 M7 H7 G7 (fits_nar_char _) W7 5 rfl (Nat.le_of_ble_eq_true rfl)⟩
  refine OEnd.go (g' := (mkF m 34 #[.val (.int p0), .val (.int p1), .unset, .unset, .unset, .unset, .unset] [(.ref b0_2)])) st7 ?_
  refine OEnd.go (T' := T7) (g' := (mkF m 40 #[.val (.int p0), .val (.int p1), .unset, .unset, .unset, .unset, .unset] [(.int (133 : Int32)), (.int (6 : Int32)), (.ref b0_2), (.ref b0_2)])) (fun t k => ?_) ?_
  · show Steps p.tables e below (T7.setTop (mkF m 34 #[.val (.int p0), .val (.int p1), .unset, .unset, .unset, .unset, .unset] [(.ref b0_2)])) t
    refine XS.dup X7.here hx rfl (hb hby at_34) rfl rfl ?_
    show Steps p.tables e below (T7.setTop (mkF m 35 #[.val (.int p0), .val (.int p1), .unset, .unset, .unset, .unset, .unset] [(.ref b0_2), (.ref b0_2)])) t
    refine XS.bipush X7.here hx rfl (hb hby at_35) ?_
    show Steps p.tables e below (T7.setTop (mkF m 37 #[.val (.int p0), .val (.int p1), .unset, .unset, .unset, .unset, .unset] [(.int (6 : Int32)), (.ref b0_2), (.ref b0_2)])) t
    refine XS.sipush X7.here hx rfl (hb hby at_37) ?_
    show Steps p.tables e below (T7.setTop (mkF m 40 #[.val (.int p0), .val (.int p1), .unset, .unset, .unset, .unset, .unset] [(.int (133 : Int32)), (.int (6 : Int32)), (.ref b0_2), (.ref b0_2)])) t
    exact k
  obtain ⟨kc8, cl8, Ar8, q8, S8, M8, H8, G8⟩ := V7
  have hin8 : ¬ ((6 : Int32) < 0 ∨ cl8.slots.size ≤ ((6 : Int32)).toNatClampNeg) := inb_of S8 ⟨by decide, by decide⟩
  obtain ⟨T8, h8, X8, e8, W8, st8⟩ := stC X7 hx hZ e7 Ar8 (j := (6 : Int32)) hin8 (g := (mkF m 40 #[.val (.int p0), .val (.int p1), .unset, .unset, .unset, .unset, .unset] [(.int (133 : Int32)), (.int (6 : Int32)), (.ref b0_2), (.ref b0_2)])) rfl rfl (hb hby at_40)
  have N8 := Fr.snoc X8 N7 gle_b0_2
  have Z8 : n0 ≤ h8.size := Nat.le_trans Z7 (Keep.of_wr W8).1
  have V8 : OArr Z h8 b0_2 .char (10 : Int32) [(.int (32 : Int32)), (.int (9 : Int32)), (.int (10 : Int32)), (.int (13 : Int32)), (.int (11 : Int32)), (.int (12 : Int32)), (.int (133 : Int32)), (.int (0 : Int32)), (.int (0 : Int32)), (.int (0 : Int32))] (.int (0 : Int32)) := ⟨_, Arv.set Ar8 q8 S8 M8 H8 G8 (fits_nar_char _) W8 6 rfl (Nat.le_of_ble_eq_true rfl)⟩
  refine OEnd.go (g' := (mkF m 41 #[.val (.int p0), .val (.int p1), .unset, .unset, .unset, .unset, .unset] [(.ref b0_2)])) st8 ?_
  refine OEnd.go (T' := T8) (g' := (mkF m 47 #[.val (.int p0), .val (.int p1), .unset, .unset, .unset, .unset, .unset] [(.int (160 : Int32)), (.int (7 : Int32)), (.ref b0_2), (.ref b0_2)])) (fun t k => ?_) ?_
  · show Steps p.tables e below (T8.setTop (mkF m 41 #[.val (.int p0), .val (.int p1), .unset, .unset, .unset, .unset, .unset] [(.ref b0_2)])) t
    refine XS.dup X8.here hx rfl (hb hby at_41) rfl rfl ?_
    show Steps p.tables e below (T8.setTop (mkF m 42 #[.val (.int p0), .val (.int p1), .unset, .unset, .unset, .unset, .unset] [(.ref b0_2), (.ref b0_2)])) t
    refine XS.bipush X8.here hx rfl (hb hby at_42) ?_
    show Steps p.tables e below (T8.setTop (mkF m 44 #[.val (.int p0), .val (.int p1), .unset, .unset, .unset, .unset, .unset] [(.int (7 : Int32)), (.ref b0_2), (.ref b0_2)])) t
    refine XS.sipush X8.here hx rfl (hb hby at_44) ?_
    show Steps p.tables e below (T8.setTop (mkF m 47 #[.val (.int p0), .val (.int p1), .unset, .unset, .unset, .unset, .unset] [(.int (160 : Int32)), (.int (7 : Int32)), (.ref b0_2), (.ref b0_2)])) t
    exact k
  obtain ⟨kc9, cl9, Ar9, q9, S9, M9, H9, G9⟩ := V8
  have hin9 : ¬ ((7 : Int32) < 0 ∨ cl9.slots.size ≤ ((7 : Int32)).toNatClampNeg) := inb_of S9 ⟨by decide, by decide⟩
  obtain ⟨T9, h9, X9, e9, W9, st9⟩ := stC X8 hx hZ e8 Ar9 (j := (7 : Int32)) hin9 (g := (mkF m 47 #[.val (.int p0), .val (.int p1), .unset, .unset, .unset, .unset, .unset] [(.int (160 : Int32)), (.int (7 : Int32)), (.ref b0_2), (.ref b0_2)])) rfl rfl (hb hby at_47)
  have N9 := Fr.snoc X9 N8 gle_b0_2
  have Z9 : n0 ≤ h9.size := Nat.le_trans Z8 (Keep.of_wr W9).1
  have V9 : OArr Z h9 b0_2 .char (10 : Int32) [(.int (32 : Int32)), (.int (9 : Int32)), (.int (10 : Int32)), (.int (13 : Int32)), (.int (11 : Int32)), (.int (12 : Int32)), (.int (133 : Int32)), (.int (160 : Int32)), (.int (0 : Int32)), (.int (0 : Int32))] (.int (0 : Int32)) := ⟨_, Arv.set Ar9 q9 S9 M9 H9 G9 (fits_nar_char _) W9 7 rfl (Nat.le_of_ble_eq_true rfl)⟩
  refine OEnd.go (g' := (mkF m 48 #[.val (.int p0), .val (.int p1), .unset, .unset, .unset, .unset, .unset] [(.ref b0_2)])) st9 ?_
  refine OEnd.go (T' := T9) (g' := (mkF m 54 #[.val (.int p0), .val (.int p1), .unset, .unset, .unset, .unset, .unset] [(.int (8232 : Int32)), (.int (8 : Int32)), (.ref b0_2), (.ref b0_2)])) (fun t k => ?_) ?_
  · show Steps p.tables e below (T9.setTop (mkF m 48 #[.val (.int p0), .val (.int p1), .unset, .unset, .unset, .unset, .unset] [(.ref b0_2)])) t
    refine XS.dup X9.here hx rfl (hb hby at_48) rfl rfl ?_
    show Steps p.tables e below (T9.setTop (mkF m 49 #[.val (.int p0), .val (.int p1), .unset, .unset, .unset, .unset, .unset] [(.ref b0_2), (.ref b0_2)])) t
    refine XS.bipush X9.here hx rfl (hb hby at_49) ?_
    show Steps p.tables e below (T9.setTop (mkF m 51 #[.val (.int p0), .val (.int p1), .unset, .unset, .unset, .unset, .unset] [(.int (8 : Int32)), (.ref b0_2), (.ref b0_2)])) t
    refine XS.sipush X9.here hx rfl (hb hby at_51) ?_
    show Steps p.tables e below (T9.setTop (mkF m 54 #[.val (.int p0), .val (.int p1), .unset, .unset, .unset, .unset, .unset] [(.int (8232 : Int32)), (.int (8 : Int32)), (.ref b0_2), (.ref b0_2)])) t
    exact k
  obtain ⟨kc10, cl10, Ar10, q10, S10, M10, H10, G10⟩ := V9
  have hin10 : ¬ ((8 : Int32) < 0 ∨ cl10.slots.size ≤ ((8 : Int32)).toNatClampNeg) := inb_of S10 ⟨by decide, by decide⟩
  obtain ⟨T10, h10, X10, e10, W10, st10⟩ := stC X9 hx hZ e9 Ar10 (j := (8 : Int32)) hin10 (g := (mkF m 54 #[.val (.int p0), .val (.int p1), .unset, .unset, .unset, .unset, .unset] [(.int (8232 : Int32)), (.int (8 : Int32)), (.ref b0_2), (.ref b0_2)])) rfl rfl (hb hby at_54)
  have N10 := Fr.snoc X10 N9 gle_b0_2
  have Z10 : n0 ≤ h10.size := Nat.le_trans Z9 (Keep.of_wr W10).1
  have V10 : OArr Z h10 b0_2 .char (10 : Int32) [(.int (32 : Int32)), (.int (9 : Int32)), (.int (10 : Int32)), (.int (13 : Int32)), (.int (11 : Int32)), (.int (12 : Int32)), (.int (133 : Int32)), (.int (160 : Int32)), (.int (8232 : Int32)), (.int (0 : Int32))] (.int (0 : Int32)) := ⟨_, Arv.set Ar10 q10 S10 M10 H10 G10 (fits_nar_char _) W10 8 rfl (Nat.le_of_ble_eq_true rfl)⟩
  refine OEnd.go (g' := (mkF m 55 #[.val (.int p0), .val (.int p1), .unset, .unset, .unset, .unset, .unset] [(.ref b0_2)])) st10 ?_
  refine OEnd.go (T' := T10) (g' := (mkF m 61 #[.val (.int p0), .val (.int p1), .unset, .unset, .unset, .unset, .unset] [(.int (12288 : Int32)), (.int (9 : Int32)), (.ref b0_2), (.ref b0_2)])) (fun t k => ?_) ?_
  · show Steps p.tables e below (T10.setTop (mkF m 55 #[.val (.int p0), .val (.int p1), .unset, .unset, .unset, .unset, .unset] [(.ref b0_2)])) t
    refine XS.dup X10.here hx rfl (hb hby at_55) rfl rfl ?_
    show Steps p.tables e below (T10.setTop (mkF m 56 #[.val (.int p0), .val (.int p1), .unset, .unset, .unset, .unset, .unset] [(.ref b0_2), (.ref b0_2)])) t
    refine XS.bipush X10.here hx rfl (hb hby at_56) ?_
    show Steps p.tables e below (T10.setTop (mkF m 58 #[.val (.int p0), .val (.int p1), .unset, .unset, .unset, .unset, .unset] [(.int (9 : Int32)), (.ref b0_2), (.ref b0_2)])) t
    refine XS.sipush X10.here hx rfl (hb hby at_58) ?_
    show Steps p.tables e below (T10.setTop (mkF m 61 #[.val (.int p0), .val (.int p1), .unset, .unset, .unset, .unset, .unset] [(.int (12288 : Int32)), (.int (9 : Int32)), (.ref b0_2), (.ref b0_2)])) t
    exact k
  obtain ⟨kc11, cl11, Ar11, q11, S11, M11, H11, G11⟩ := V10
  have hin11 : ¬ ((9 : Int32) < 0 ∨ cl11.slots.size ≤ ((9 : Int32)).toNatClampNeg) := inb_of S11 ⟨by decide, by decide⟩
  obtain ⟨T11, h11, X11, e11, W11, st11⟩ := stC X10 hx hZ e10 Ar11 (j := (9 : Int32)) hin11 (g := (mkF m 61 #[.val (.int p0), .val (.int p1), .unset, .unset, .unset, .unset, .unset] [(.int (12288 : Int32)), (.int (9 : Int32)), (.ref b0_2), (.ref b0_2)])) rfl rfl (hb hby at_61)
  have N11 := Fr.snoc X11 N10 gle_b0_2
  have Z11 : n0 ≤ h11.size := Nat.le_trans Z10 (Keep.of_wr W11).1
  have V11 : OArr Z h11 b0_2 .char (10 : Int32) [(.int (32 : Int32)), (.int (9 : Int32)), (.int (10 : Int32)), (.int (13 : Int32)), (.int (11 : Int32)), (.int (12 : Int32)), (.int (133 : Int32)), (.int (160 : Int32)), (.int (8232 : Int32)), (.int (12288 : Int32))] (.int (0 : Int32)) := ⟨_, Arv.set Ar11 q11 S11 M11 H11 G11 (fits_nar_char _) W11 9 rfl (Nat.le_of_ble_eq_true rfl)⟩
  refine OEnd.go (g' := (mkF m 62 #[.val (.int p0), .val (.int p1), .unset, .unset, .unset, .unset, .unset] [(.ref b0_2)])) st11 ?_
  refine OEnd.go (T' := T11) (g' := (mkF m 66 #[.val (.int p0), .val (.int p1), .val (.ref b0_2), .unset, .unset, .unset, .unset] [(.int (p1 &&& (1 : Int32)))])) (fun t k => ?_) ?_
  · show Steps p.tables e below (T11.setTop (mkF m 62 #[.val (.int p0), .val (.int p1), .unset, .unset, .unset, .unset, .unset] [(.ref b0_2)])) t
    refine XS.astoreN X11.here hx rfl (hb hby at_62) rfl rfl (l' := #[.val (.int p0), .val (.int p1), .val (.ref b0_2), .unset, .unset, .unset, .unset]) rfl ?_
    show Steps p.tables e below (T11.setTop (mkF m 63 #[.val (.int p0), .val (.int p1), .val (.ref b0_2), .unset, .unset, .unset, .unset] [])) t
    refine XS.iloadN X11.here hx rfl (hb hby at_63) rfl ?_
    show Steps p.tables e below (T11.setTop (mkF m 64 #[.val (.int p0), .val (.int p1), .val (.ref b0_2), .unset, .unset, .unset, .unset] [(.int p1)])) t
    refine XS.iconst X11.here hx rfl (hb hby at_64) ?_
    show Steps p.tables e below (T11.setTop (mkF m 65 #[.val (.int p0), .val (.int p1), .val (.ref b0_2), .unset, .unset, .unset, .unset] [(.int (1 : Int32)), (.int p1)])) t
    refine XS.iand X11.here hx rfl (hb hby at_65) rfl ?_
    show Steps p.tables e below (T11.setTop (mkF m 66 #[.val (.int p0), .val (.int p1), .val (.ref b0_2), .unset, .unset, .unset, .unset] [(.int (p1 &&& (1 : Int32)))])) t
    exact k
  obtain ⟨T13, L13, X13, e13, N13, st13⟩ : ORch p l e room_1 s m #[(.int p0), (.int p1)] below meth c n0 T11 (mkF m 66 #[.val (.int p0), .val (.int p1), .val (.ref b0_2), .unset, .unset, .unset, .unset] [(.int (p1 &&& (1 : Int32)))]) h11 (mkF m 84 (la0_0 p0 p1 b0_2) []) 1 10 := by
    by_cases hc12 : (p1 &&& (1 : Int32)) = (0 : Int32)
    · skip
      refine ORch.go (T' := T11) (g' := (mkF m 75 #[.val (.int p0), .val (.int p1), .val (.ref b0_2), .unset, .unset, .unset, .unset] [])) (fun t k => ?_) ?_
      · show Steps p.tables e below (T11.setTop (mkF m 66 #[.val (.int p0), .val (.int p1), .val (.ref b0_2), .unset, .unset, .unset, .unset] [(.int (p1 &&& (1 : Int32)))])) t
        refine XS.ifYes X11.here hx rfl (pc0 := 66) (pc' := 75) rfl (hb hby at_66) rfl ((if0 _ _).trans (teq (hc12)).1) (by decide) (by decide) ?_
        show Steps p.tables e below (T11.setTop (mkF m 75 #[.val (.int p0), .val (.int p1), .val (.ref b0_2), .unset, .unset, .unset, .unset] [])) t
        exact k
      refine ORch.go (T' := T11) (g' := (mkF m 82 #[.val (.int p0), .val (.int p1), .val (.ref b0_2), .unset, .unset, .unset, .unset] [(.int (((p1.toUInt32 >>> ((1 : Int32) &&& 31).toUInt32).toInt32) - (((p1.toUInt32 >>> ((1 : Int32) &&& 31).toUInt32).toInt32) / (10 : Int32)) * (10 : Int32))), (.ref b0_2)])) (fun t k => ?_) ?_
      · show Steps p.tables e below (T11.setTop (mkF m 75 #[.val (.int p0), .val (.int p1), .val (.ref b0_2), .unset, .unset, .unset, .unset] [])) t
        refine XS.aloadN X11.here hx rfl (hb hby at_75) rfl rfl ?_
        show Steps p.tables e below (T11.setTop (mkF m 76 #[.val (.int p0), .val (.int p1), .val (.ref b0_2), .unset, .unset, .unset, .unset] [(.ref b0_2)])) t
        refine XS.iloadN X11.here hx rfl (hb hby at_76) rfl ?_
        show Steps p.tables e below (T11.setTop (mkF m 77 #[.val (.int p0), .val (.int p1), .val (.ref b0_2), .unset, .unset, .unset, .unset] [(.int p1), (.ref b0_2)])) t
        refine XS.iconst X11.here hx rfl (hb hby at_77) ?_
        show Steps p.tables e below (T11.setTop (mkF m 78 #[.val (.int p0), .val (.int p1), .val (.ref b0_2), .unset, .unset, .unset, .unset] [(.int (1 : Int32)), (.int p1), (.ref b0_2)])) t
        refine XS.iushr X11.here hx rfl (hb hby at_78) rfl ?_
        show Steps p.tables e below (T11.setTop (mkF m 79 #[.val (.int p0), .val (.int p1), .val (.ref b0_2), .unset, .unset, .unset, .unset] [(.int ((p1.toUInt32 >>> ((1 : Int32) &&& 31).toUInt32).toInt32)), (.ref b0_2)])) t
        refine XS.bipush X11.here hx rfl (hb hby at_79) ?_
        show Steps p.tables e below (T11.setTop (mkF m 81 #[.val (.int p0), .val (.int p1), .val (.ref b0_2), .unset, .unset, .unset, .unset] [(.int (10 : Int32)), (.int ((p1.toUInt32 >>> ((1 : Int32) &&& 31).toUInt32).toInt32)), (.ref b0_2)])) t
        refine XS.irem X11.here hx rfl (hb hby at_81) rfl (by decide) ?_
        show Steps p.tables e below (T11.setTop (mkF m 82 #[.val (.int p0), .val (.int p1), .val (.ref b0_2), .unset, .unset, .unset, .unset] [(.int (((p1.toUInt32 >>> ((1 : Int32) &&& 31).toUInt32).toInt32) - (((p1.toUInt32 >>> ((1 : Int32) &&& 31).toUInt32).toInt32) / (10 : Int32)) * (10 : Int32))), (.ref b0_2)])) t
        exact k
      obtain ⟨kc14, cl14, Ar14, q14, S14, M14, H14, G14⟩ := V11
      have hin14 : ¬ ((((p1.toUInt32 >>> ((1 : Int32) &&& 31).toUInt32).toInt32) - (((p1.toUInt32 >>> ((1 : Int32) &&& 31).toUInt32).toInt32) / (10 : Int32)) * (10 : Int32)) < 0 ∨ cl14.slots.size ≤ ((((p1.toUInt32 >>> ((1 : Int32) &&& 31).toUInt32).toInt32) - (((p1.toUInt32 >>> ((1 : Int32) &&& 31).toUInt32).toInt32) / (10 : Int32)) * (10 : Int32))).toNatClampNeg) := inb_of S14 ⟨(own_i1 p1), (own_i2 p1)⟩
      have hat14 : cl14.slots[((((p1.toUInt32 >>> ((1 : Int32) &&& 31).toUInt32).toInt32) - (((p1.toUInt32 >>> ((1 : Int32) &&& 31).toUInt32).toInt32) / (10 : Int32)) * (10 : Int32))).toNatClampNeg]? = some (.int (own_rd (((p1.toUInt32 >>> ((1 : Int32) &&& 31).toUInt32).toInt32) - (((p1.toUInt32 >>> ((1 : Int32) &&& 31).toUInt32).toInt32) / (10 : Int32)) * (10 : Int32)))) := Has.at H14 hin14 (own_rdv _)
      refine ORch.go (T' := T11) (g' := (mkF m 83 #[.val (.int p0), .val (.int p1), .val (.ref b0_2), .unset, .unset, .unset, .unset] [(.int (own_rd (((p1.toUInt32 >>> ((1 : Int32) &&& 31).toUInt32).toInt32) - (((p1.toUInt32 >>> ((1 : Int32) &&& 31).toUInt32).toInt32) / (10 : Int32)) * (10 : Int32))))])) (fun t k => ?_) ?_
      · refine X11.caload hx (j := (((p1.toUInt32 >>> ((1 : Int32) &&& 31).toUInt32).toInt32) - (((p1.toUInt32 >>> ((1 : Int32) &&& 31).toUInt32).toInt32) / (10 : Int32)) * (10 : Int32))) (v := (.int (own_rd (((p1.toUInt32 >>> ((1 : Int32) &&& 31).toUInt32).toInt32) - (((p1.toUInt32 >>> ((1 : Int32) &&& 31).toUInt32).toInt32) / (10 : Int32)) * (10 : Int32))))) (by rw [e11]; exact Ar14.1) (State.isArrayOf_alike hZ.alike Ar14.2.1) Ar14.2.2 hin14 hat14 (g := (mkF m 82 #[.val (.int p0), .val (.int p1), .val (.ref b0_2), .unset, .unset, .unset, .unset] [(.int (((p1.toUInt32 >>> ((1 : Int32) &&& 31).toUInt32).toInt32) - (((p1.toUInt32 >>> ((1 : Int32) &&& 31).toUInt32).toInt32) / (10 : Int32)) * (10 : Int32))), (.ref b0_2)])) rfl rfl (hb hby at_82) _ ?_
        exact k
      refine ORch.go (T' := T11) (g' := (mkF m 84 #[.val (.int p0), .val (.int p1), .val (.ref b0_2), .val (.int (v0_83 p0 p1)), .unset, .unset, .unset] [])) (fun t k => ?_) ?_
      · show Steps p.tables e below (T11.setTop (mkF m 83 #[.val (.int p0), .val (.int p1), .val (.ref b0_2), .unset, .unset, .unset, .unset] [(.int (own_rd (((p1.toUInt32 >>> ((1 : Int32) &&& 31).toUInt32).toInt32) - (((p1.toUInt32 >>> ((1 : Int32) &&& 31).toUInt32).toInt32) / (10 : Int32)) * (10 : Int32))))])) t
        refine XS.istoreN X11.here hx rfl (hb hby at_83) rfl (l' := #[.val (.int p0), .val (.int p1), .val (.ref b0_2), .val (.int (v0_83 p0 p1)), .unset, .unset, .unset]) rfl ?_
        show Steps p.tables e below (T11.setTop (mkF m 84 #[.val (.int p0), .val (.int p1), .val (.ref b0_2), .val (.int (v0_83 p0 p1)), .unset, .unset, .unset] [])) t
        exact k
      exact ⟨_, _, X11, e11, N11, fun t k => (own_k (f := fun (z : Int32) => mkF m 84 #[.val (.int p0), .val (.int p1), .val (.ref b0_2), .val (.int z), .unset, .unset, .unset] []) (if_pos hc12) k)⟩
    · skip
      refine ORch.go (T' := T11) (g' := (mkF m 69 #[.val (.int p0), .val (.int p1), .val (.ref b0_2), .unset, .unset, .unset, .unset] [])) (fun t k => ?_) ?_
      · show Steps p.tables e below (T11.setTop (mkF m 66 #[.val (.int p0), .val (.int p1), .val (.ref b0_2), .unset, .unset, .unset, .unset] [(.int (p1 &&& (1 : Int32)))])) t
        refine XS.ifNo X11.here hx rfl (hb hby at_66) rfl ((if0 _ _).trans (feq (hc12)).1) ?_
        show Steps p.tables e below (T11.setTop (mkF m 69 #[.val (.int p0), .val (.int p1), .val (.ref b0_2), .unset, .unset, .unset, .unset] [])) t
        exact k
      refine ORch.go (T' := T11) (g' := (mkF m 84 #[.val (.int p0), .val (.int p1), .val (.ref b0_2), .val (.int (v0_71 p0 p1)), .unset, .unset, .unset] [])) (fun t k => ?_) ?_
      · show Steps p.tables e below (T11.setTop (mkF m 69 #[.val (.int p0), .val (.int p1), .val (.ref b0_2), .unset, .unset, .unset, .unset] [])) t
        refine XS.iloadN X11.here hx rfl (hb hby at_69) rfl ?_
        show Steps p.tables e below (T11.setTop (mkF m 70 #[.val (.int p0), .val (.int p1), .val (.ref b0_2), .unset, .unset, .unset, .unset] [(.int p0)])) t
        refine XS.i2c X11.here hx rfl (hb hby at_70) rfl ?_
        show Steps p.tables e below (T11.setTop (mkF m 71 #[.val (.int p0), .val (.int p1), .val (.ref b0_2), .unset, .unset, .unset, .unset] [(.int (p0.toUInt32.toUInt16.toUInt32.toInt32))])) t
        refine XS.istoreN X11.here hx rfl (hb hby at_71) rfl (l' := #[.val (.int p0), .val (.int p1), .val (.ref b0_2), .val (.int (v0_71 p0 p1)), .unset, .unset, .unset]) rfl ?_
        show Steps p.tables e below (T11.setTop (mkF m 72 #[.val (.int p0), .val (.int p1), .val (.ref b0_2), .val (.int (v0_71 p0 p1)), .unset, .unset, .unset] [])) t
        refine XS.goto X11.here hx rfl (pc0 := 72) (pc' := 84) rfl (hb hby at_72) (by decide) (by decide) ?_
        show Steps p.tables e below (T11.setTop (mkF m 84 #[.val (.int p0), .val (.int p1), .val (.ref b0_2), .val (.int (v0_71 p0 p1)), .unset, .unset, .unset] [])) t
        exact k
      exact ⟨_, _, X11, e11, N11, fun t k => (own_k (f := fun (z : Int32) => mkF m 84 #[.val (.int p0), .val (.int p1), .val (.ref b0_2), .val (.int z), .unset, .unset, .unset] []) (if_neg hc12) k)⟩
  refine OEnd.go (g' := (mkF m 84 #[.val (.int p0), .val (.int p1), .val (.ref b0_2), .val (.int (v0_84_3 p0 p1)), .unset, .unset, .unset] [])) st13 ?_
  refine OEnd.go (T' := T13) (g' := (mkF m 92 #[.val (.int p0), .val (.int p1), .val (.ref b0_2), .val (.int (v0_84_3 p0 p1)), .val (.long (4294977024 : Int64)), .second, .unset] [(.int (32 : Int32)), (.int (v0_84_3 p0 p1))])) (fun t k => ?_) ?_
  · show Steps p.tables e below (T13.setTop (mkF m 84 #[.val (.int p0), .val (.int p1), .val (.ref b0_2), .val (.int (v0_84_3 p0 p1)), .unset, .unset, .unset] [])) t
    refine X13.ldc2Long hx hown (mvT hZ (hw _ (List.mem_of_getElem? (i := 1) rfl))) (g := (mkF m 84 #[.val (.int p0), .val (.int p1), .val (.ref b0_2), .val (.int (v0_84_3 p0 p1)), .unset, .unset, .unset] [])) rfl (hb hby at_84) _ ?_
    show Steps p.tables e below (T13.setTop (mkF m 87 #[.val (.int p0), .val (.int p1), .val (.ref b0_2), .val (.int (v0_84_3 p0 p1)), .unset, .unset, .unset] [(.long (4294977024 : Int64))])) t
    refine XS.lstore X13.here hx rfl (hb hby at_87) rfl (l' := #[.val (.int p0), .val (.int p1), .val (.ref b0_2), .val (.int (v0_84_3 p0 p1)), .val (.long (4294977024 : Int64)), .second, .unset]) rfl ?_
    show Steps p.tables e below (T13.setTop (mkF m 89 #[.val (.int p0), .val (.int p1), .val (.ref b0_2), .val (.int (v0_84_3 p0 p1)), .val (.long (4294977024 : Int64)), .second, .unset] [])) t
    refine XS.iloadN X13.here hx rfl (hb hby at_89) rfl ?_
    show Steps p.tables e below (T13.setTop (mkF m 90 #[.val (.int p0), .val (.int p1), .val (.ref b0_2), .val (.int (v0_84_3 p0 p1)), .val (.long (4294977024 : Int64)), .second, .unset] [(.int (v0_84_3 p0 p1))])) t
    refine XS.bipush X13.here hx rfl (hb hby at_90) ?_
    show Steps p.tables e below (T13.setTop (mkF m 92 #[.val (.int p0), .val (.int p1), .val (.ref b0_2), .val (.int (v0_84_3 p0 p1)), .val (.long (4294977024 : Int64)), .second, .unset] [(.int (32 : Int32)), (.int (v0_84_3 p0 p1))])) t
    exact k
  refine OEnd.go (T' := T13) (g' := (mkF m 111 #[.val (.int p0), .val (.int p1), .val (.ref b0_2), .val (.int (v0_84_3 p0 p1)), .val (.long (4294977024 : Int64)), .second, .unset] [(.int (if (32 : Int32) < (v0_84_3 p0 p1) then (0 : Int32) else (if ((((4294977024 : Int64).toUInt64 >>> ((v0_84_3 p0 p1) &&& 0x3f).toInt64.toUInt64).toInt64) &&& (1 : Int64)) = (0 : Int64) then (0 : Int32) else (1 : Int32))))])) (fun t k => ?_) ?_
  · show Steps p.tables e below (T13.setTop (mkF m 92 #[.val (.int p0), .val (.int p1), .val (.ref b0_2), .val (.int (v0_84_3 p0 p1)), .val (.long (4294977024 : Int64)), .second, .unset] [(.int (32 : Int32)), (.int (v0_84_3 p0 p1))])) t
    by_cases hc15 : (32 : Int32) < (v0_84_3 p0 p1)
    · skip
      refine XS.icmpYes X13.here hx rfl (pc0 := 92) (pc' := 110) rfl (hb hby at_92) rfl (tlt (hc15)).2.2.1 (by decide) (by decide) ?_
      show Steps p.tables e below (T13.setTop (mkF m 110 #[.val (.int p0), .val (.int p1), .val (.ref b0_2), .val (.int (v0_84_3 p0 p1)), .val (.long (4294977024 : Int64)), .second, .unset] [])) t
      refine SGo.go (T' := T13) (g' := (mkF m 111 #[.val (.int p0), .val (.int p1), .val (.ref b0_2), .val (.int (v0_84_3 p0 p1)), .val (.long (4294977024 : Int64)), .second, .unset] [(.int (0 : Int32))])) (fun t k => ?_) ?_
      · show Steps p.tables e below (T13.setTop (mkF m 110 #[.val (.int p0), .val (.int p1), .val (.ref b0_2), .val (.int (v0_84_3 p0 p1)), .val (.long (4294977024 : Int64)), .second, .unset] [])) t
        refine XS.iconst X13.here hx rfl (hb hby at_110) ?_
        show Steps p.tables e below (T13.setTop (mkF m 111 #[.val (.int p0), .val (.int p1), .val (.ref b0_2), .val (.int (v0_84_3 p0 p1)), .val (.long (4294977024 : Int64)), .second, .unset] [(.int (0 : Int32))])) t
        exact k
      exact (own_k (f := fun (z : Int32) => mkF m 111 #[.val (.int p0), .val (.int p1), .val (.ref b0_2), .val (.int (v0_84_3 p0 p1)), .val (.long (4294977024 : Int64)), .second, .unset] [(.int z)]) (if_pos hc15) k)
    · skip
      refine XS.icmpNo X13.here hx rfl (hb hby at_92) rfl (flt (hc15)).2.2.1 ?_
      show Steps p.tables e below (T13.setTop (mkF m 95 #[.val (.int p0), .val (.int p1), .val (.ref b0_2), .val (.int (v0_84_3 p0 p1)), .val (.long (4294977024 : Int64)), .second, .unset] [])) t
      refine SGo.go (T' := T13) (g' := (mkF m 103 #[.val (.int p0), .val (.int p1), .val (.ref b0_2), .val (.int (v0_84_3 p0 p1)), .val (.long (4294977024 : Int64)), .second, .unset] [(.int (lcmpW ((((4294977024 : Int64).toUInt64 >>> ((v0_84_3 p0 p1) &&& 0x3f).toInt64.toUInt64).toInt64) &&& (1 : Int64)) (0 : Int64)))])) (fun t k => ?_) ?_
      · show Steps p.tables e below (T13.setTop (mkF m 95 #[.val (.int p0), .val (.int p1), .val (.ref b0_2), .val (.int (v0_84_3 p0 p1)), .val (.long (4294977024 : Int64)), .second, .unset] [])) t
        refine XS.lload X13.here hx rfl (hb hby at_95) rfl ?_
        show Steps p.tables e below (T13.setTop (mkF m 97 #[.val (.int p0), .val (.int p1), .val (.ref b0_2), .val (.int (v0_84_3 p0 p1)), .val (.long (4294977024 : Int64)), .second, .unset] [(.long (4294977024 : Int64))])) t
        refine XS.iloadN X13.here hx rfl (hb hby at_97) rfl ?_
        show Steps p.tables e below (T13.setTop (mkF m 98 #[.val (.int p0), .val (.int p1), .val (.ref b0_2), .val (.int (v0_84_3 p0 p1)), .val (.long (4294977024 : Int64)), .second, .unset] [(.int (v0_84_3 p0 p1)), (.long (4294977024 : Int64))])) t
        refine XS.lushr X13.here hx rfl (hb hby at_98) rfl ?_
        show Steps p.tables e below (T13.setTop (mkF m 99 #[.val (.int p0), .val (.int p1), .val (.ref b0_2), .val (.int (v0_84_3 p0 p1)), .val (.long (4294977024 : Int64)), .second, .unset] [(.long (((4294977024 : Int64).toUInt64 >>> ((v0_84_3 p0 p1) &&& 0x3f).toInt64.toUInt64).toInt64))])) t
        refine XS.lconst X13.here hx rfl (hb hby at_99) ?_
        show Steps p.tables e below (T13.setTop (mkF m 100 #[.val (.int p0), .val (.int p1), .val (.ref b0_2), .val (.int (v0_84_3 p0 p1)), .val (.long (4294977024 : Int64)), .second, .unset] [(.long (1 : Int64)), (.long (((4294977024 : Int64).toUInt64 >>> ((v0_84_3 p0 p1) &&& 0x3f).toInt64.toUInt64).toInt64))])) t
        refine XS.land X13.here hx rfl (hb hby at_100) rfl ?_
        show Steps p.tables e below (T13.setTop (mkF m 101 #[.val (.int p0), .val (.int p1), .val (.ref b0_2), .val (.int (v0_84_3 p0 p1)), .val (.long (4294977024 : Int64)), .second, .unset] [(.long ((((4294977024 : Int64).toUInt64 >>> ((v0_84_3 p0 p1) &&& 0x3f).toInt64.toUInt64).toInt64) &&& (1 : Int64)))])) t
        refine XS.lconst X13.here hx rfl (hb hby at_101) ?_
        show Steps p.tables e below (T13.setTop (mkF m 102 #[.val (.int p0), .val (.int p1), .val (.ref b0_2), .val (.int (v0_84_3 p0 p1)), .val (.long (4294977024 : Int64)), .second, .unset] [(.long (0 : Int64)), (.long ((((4294977024 : Int64).toUInt64 >>> ((v0_84_3 p0 p1) &&& 0x3f).toInt64.toUInt64).toInt64) &&& (1 : Int64)))])) t
        refine XS.lcmp X13.here hx rfl (hb hby at_102) rfl ?_
        show Steps p.tables e below (T13.setTop (mkF m 103 #[.val (.int p0), .val (.int p1), .val (.ref b0_2), .val (.int (v0_84_3 p0 p1)), .val (.long (4294977024 : Int64)), .second, .unset] [(.int (lcmpW ((((4294977024 : Int64).toUInt64 >>> ((v0_84_3 p0 p1) &&& 0x3f).toInt64.toUInt64).toInt64) &&& (1 : Int64)) (0 : Int64)))])) t
        exact k
      by_cases hc16 : ((((4294977024 : Int64).toUInt64 >>> ((v0_84_3 p0 p1) &&& 0x3f).toInt64.toUInt64).toInt64) &&& (1 : Int64)) = (0 : Int64)
      · skip
        refine XS.ifYes X13.here hx rfl (pc0 := 103) (pc' := 110) rfl (hb hby at_103) rfl ((if0 _ _).trans (teq ((lw_eq ((((4294977024 : Int64).toUInt64 >>> ((v0_84_3 p0 p1) &&& 0x3f).toInt64.toUInt64).toInt64) &&& (1 : Int64)) (0 : Int64)).mpr hc16)).1) (by decide) (by decide) ?_
        show Steps p.tables e below (T13.setTop (mkF m 110 #[.val (.int p0), .val (.int p1), .val (.ref b0_2), .val (.int (v0_84_3 p0 p1)), .val (.long (4294977024 : Int64)), .second, .unset] [])) t
        refine SGo.go (T' := T13) (g' := (mkF m 111 #[.val (.int p0), .val (.int p1), .val (.ref b0_2), .val (.int (v0_84_3 p0 p1)), .val (.long (4294977024 : Int64)), .second, .unset] [(.int (0 : Int32))])) (fun t k => ?_) ?_
        · show Steps p.tables e below (T13.setTop (mkF m 110 #[.val (.int p0), .val (.int p1), .val (.ref b0_2), .val (.int (v0_84_3 p0 p1)), .val (.long (4294977024 : Int64)), .second, .unset] [])) t
          refine XS.iconst X13.here hx rfl (hb hby at_110) ?_
          show Steps p.tables e below (T13.setTop (mkF m 111 #[.val (.int p0), .val (.int p1), .val (.ref b0_2), .val (.int (v0_84_3 p0 p1)), .val (.long (4294977024 : Int64)), .second, .unset] [(.int (0 : Int32))])) t
          exact k
        exact (own_k (f := fun (z : Int32) => mkF m 111 #[.val (.int p0), .val (.int p1), .val (.ref b0_2), .val (.int (v0_84_3 p0 p1)), .val (.long (4294977024 : Int64)), .second, .unset] [(.int z)]) ((if_neg hc15).trans (if_pos hc16)) k)
      · skip
        refine XS.ifNo X13.here hx rfl (hb hby at_103) rfl ((if0 _ _).trans (feq ((fun q => hc16 ((lw_eq ((((4294977024 : Int64).toUInt64 >>> ((v0_84_3 p0 p1) &&& 0x3f).toInt64.toUInt64).toInt64) &&& (1 : Int64)) (0 : Int64)).mp q)))).1) ?_
        show Steps p.tables e below (T13.setTop (mkF m 106 #[.val (.int p0), .val (.int p1), .val (.ref b0_2), .val (.int (v0_84_3 p0 p1)), .val (.long (4294977024 : Int64)), .second, .unset] [])) t
        refine SGo.go (T' := T13) (g' := (mkF m 111 #[.val (.int p0), .val (.int p1), .val (.ref b0_2), .val (.int (v0_84_3 p0 p1)), .val (.long (4294977024 : Int64)), .second, .unset] [(.int (1 : Int32))])) (fun t k => ?_) ?_
        · show Steps p.tables e below (T13.setTop (mkF m 106 #[.val (.int p0), .val (.int p1), .val (.ref b0_2), .val (.int (v0_84_3 p0 p1)), .val (.long (4294977024 : Int64)), .second, .unset] [])) t
          refine XS.iconst X13.here hx rfl (hb hby at_106) ?_
          show Steps p.tables e below (T13.setTop (mkF m 107 #[.val (.int p0), .val (.int p1), .val (.ref b0_2), .val (.int (v0_84_3 p0 p1)), .val (.long (4294977024 : Int64)), .second, .unset] [(.int (1 : Int32))])) t
          refine XS.goto X13.here hx rfl (pc0 := 107) (pc' := 111) rfl (hb hby at_107) (by decide) (by decide) ?_
          show Steps p.tables e below (T13.setTop (mkF m 111 #[.val (.int p0), .val (.int p1), .val (.ref b0_2), .val (.int (v0_84_3 p0 p1)), .val (.long (4294977024 : Int64)), .second, .unset] [(.int (1 : Int32))])) t
          exact k
        exact (own_k (f := fun (z : Int32) => mkF m 111 #[.val (.int p0), .val (.int p1), .val (.ref b0_2), .val (.int (v0_84_3 p0 p1)), .val (.long (4294977024 : Int64)), .second, .unset] [(.int z)]) ((if_neg hc15).trans (if_neg hc16)) k)
  refine OEnd.go (T' := T13) (g' := (mkF m 114 #[.val (.int p0), .val (.int p1), .val (.ref b0_2), .val (.int (v0_84_3 p0 p1)), .val (.long (4294977024 : Int64)), .second, .val (.int (v0_111 p0 p1))] [(.int (v0_84_3 p0 p1))])) (fun t k => ?_) ?_
  · show Steps p.tables e below (T13.setTop (mkF m 111 #[.val (.int p0), .val (.int p1), .val (.ref b0_2), .val (.int (v0_84_3 p0 p1)), .val (.long (4294977024 : Int64)), .second, .unset] [(.int (if (32 : Int32) < (v0_84_3 p0 p1) then (0 : Int32) else (if ((((4294977024 : Int64).toUInt64 >>> ((v0_84_3 p0 p1) &&& 0x3f).toInt64.toUInt64).toInt64) &&& (1 : Int64)) = (0 : Int64) then (0 : Int32) else (1 : Int32))))])) t
    refine XS.istore X13.here hx rfl (hb hby at_111) rfl (l' := #[.val (.int p0), .val (.int p1), .val (.ref b0_2), .val (.int (v0_84_3 p0 p1)), .val (.long (4294977024 : Int64)), .second, .val (.int (v0_111 p0 p1))]) rfl ?_
    show Steps p.tables e below (T13.setTop (mkF m 113 #[.val (.int p0), .val (.int p1), .val (.ref b0_2), .val (.int (v0_84_3 p0 p1)), .val (.long (4294977024 : Int64)), .second, .val (.int (v0_111 p0 p1))] [])) t
    refine XS.iloadN X13.here hx rfl (hb hby at_113) rfl ?_
    show Steps p.tables e below (T13.setTop (mkF m 114 #[.val (.int p0), .val (.int p1), .val (.ref b0_2), .val (.int (v0_84_3 p0 p1)), .val (.long (4294977024 : Int64)), .second, .val (.int (v0_111 p0 p1))] [(.int (v0_84_3 p0 p1))])) t
    exact k
  obtain ⟨_, _, ⟨T17, L17, k17, n17⟩, -, X17, ⟨Lc17, hQ17, l17, y17, z17⟩, st17⟩ := Jvm.LawKit.callS X13 hx (y := (⟨"com/example/induce/induce/learn/LexicalSpaces", "isWhitespace", "(C)Z"⟩ : MethodName)) hown (mvT hZ (hw _ (List.mem_of_getElem? (i := 2) rfl))) (mvT hZ (hw _ (List.mem_of_getElem? (i := 3) rfl))) (mvT hZ (hw _ (List.mem_of_getElem? (i := 4) rfl))) (mvT hZ (hw _ (List.mem_of_getElem? (i := 5) rfl))) (by decide) (backOf (W := 0) (rm1 l Z aZ hw [] (v0_84_3 p0 p1) h11 n0 Z11 ) hZ (hw _ (List.mem_of_getElem? (i := 5) rfl)) (hw _ (List.mem_of_getElem? (i := 4) rfl)) (by decide) (by decide)) (g := (mkF m 114 #[.val (.int p0), .val (.int p1), .val (.ref b0_2), .val (.int (v0_84_3 p0 p1)), .val (.long (4294977024 : Int64)), .second, .val (.int (v0_111 p0 p1))] [(.int (v0_84_3 p0 p1))])) rfl (by rw [hml]; rfl) (argsL := [(.int (v0_84_3 p0 p1))]) (rest := []) (lenOf pd__C_Z rfl) rfl (by show 2 * 0 + _ ≤ _; exact Nat.le_of_eq rfl) (hb hby at_114) (fun _ _ => ⟨rfl, e13, (by decide : 1 + 0 ≤ _), (by decide : 10 + 0 ≤ _)⟩)
  dsimp only [Pt.U, Pt.locs, Pt.cells, Pt.slots] at X17 l17 y17 z17 st17 hQ17
  subst l17 y17 z17
  obtain ⟨rfl, N17q, e17⟩ := hQ17
  have N17 := Fr.app N13 N17q
  refine OEnd.go (g' := (mkF m 117 #[.val (.int p0), .val (.int p1), .val (.ref b0_2), .val (.int (v0_84_3 p0 p1)), .val (.long (4294977024 : Int64)), .second, .val (.int (v0_111 p0 p1))] [(.int (f1 (v0_84_3 p0 p1)))])) st17 ?_
  refine OEnd.go (T' := T17) (g' := (mkF m 119 #[.val (.int p0), .val (.int p1), .val (.ref b0_2), .val (.int (v0_84_3 p0 p1)), .val (.long (4294977024 : Int64)), .second, .val (.int (v0_111 p0 p1))] [(.int (v0_111 p0 p1)), (.int (f1 (v0_84_3 p0 p1)))])) (fun t k => ?_) ?_
  · show Steps p.tables e below (T17.setTop (mkF m 117 #[.val (.int p0), .val (.int p1), .val (.ref b0_2), .val (.int (v0_84_3 p0 p1)), .val (.long (4294977024 : Int64)), .second, .val (.int (v0_111 p0 p1))] [(.int (f1 (v0_84_3 p0 p1)))])) t
    refine XS.iload X17.here hx rfl (hb hby at_117) rfl ?_
    show Steps p.tables e below (T17.setTop (mkF m 119 #[.val (.int p0), .val (.int p1), .val (.ref b0_2), .val (.int (v0_84_3 p0 p1)), .val (.long (4294977024 : Int64)), .second, .val (.int (v0_111 p0 p1))] [(.int (v0_111 p0 p1)), (.int (f1 (v0_84_3 p0 p1)))])) t
    exact k
  refine OEnd.go (T' := T17) (g' := (mkF m 127 #[.val (.int p0), .val (.int p1), .val (.ref b0_2), .val (.int (v0_84_3 p0 p1)), .val (.long (4294977024 : Int64)), .second, .val (.int (v0_111 p0 p1))] [(.int (if (f1 (v0_84_3 p0 p1)) = (v0_111 p0 p1) then (1 : Int32) else (0 : Int32)))])) (fun t k => ?_) ?_
  · show Steps p.tables e below (T17.setTop (mkF m 119 #[.val (.int p0), .val (.int p1), .val (.ref b0_2), .val (.int (v0_84_3 p0 p1)), .val (.long (4294977024 : Int64)), .second, .val (.int (v0_111 p0 p1))] [(.int (v0_111 p0 p1)), (.int (f1 (v0_84_3 p0 p1)))])) t
    by_cases hc18 : (f1 (v0_84_3 p0 p1)) = (v0_111 p0 p1)
    · skip
      refine XS.icmpNo X17.here hx rfl (hb hby at_119) rfl (teq (hc18)).2 ?_
      show Steps p.tables e below (T17.setTop (mkF m 122 #[.val (.int p0), .val (.int p1), .val (.ref b0_2), .val (.int (v0_84_3 p0 p1)), .val (.long (4294977024 : Int64)), .second, .val (.int (v0_111 p0 p1))] [])) t
      refine SGo.go (T' := T17) (g' := (mkF m 127 #[.val (.int p0), .val (.int p1), .val (.ref b0_2), .val (.int (v0_84_3 p0 p1)), .val (.long (4294977024 : Int64)), .second, .val (.int (v0_111 p0 p1))] [(.int (1 : Int32))])) (fun t k => ?_) ?_
      · show Steps p.tables e below (T17.setTop (mkF m 122 #[.val (.int p0), .val (.int p1), .val (.ref b0_2), .val (.int (v0_84_3 p0 p1)), .val (.long (4294977024 : Int64)), .second, .val (.int (v0_111 p0 p1))] [])) t
        refine XS.iconst X17.here hx rfl (hb hby at_122) ?_
        show Steps p.tables e below (T17.setTop (mkF m 123 #[.val (.int p0), .val (.int p1), .val (.ref b0_2), .val (.int (v0_84_3 p0 p1)), .val (.long (4294977024 : Int64)), .second, .val (.int (v0_111 p0 p1))] [(.int (1 : Int32))])) t
        refine XS.goto X17.here hx rfl (pc0 := 123) (pc' := 127) rfl (hb hby at_123) (by decide) (by decide) ?_
        show Steps p.tables e below (T17.setTop (mkF m 127 #[.val (.int p0), .val (.int p1), .val (.ref b0_2), .val (.int (v0_84_3 p0 p1)), .val (.long (4294977024 : Int64)), .second, .val (.int (v0_111 p0 p1))] [(.int (1 : Int32))])) t
        exact k
      exact (own_k (f := fun (z : Int32) => mkF m 127 #[.val (.int p0), .val (.int p1), .val (.ref b0_2), .val (.int (v0_84_3 p0 p1)), .val (.long (4294977024 : Int64)), .second, .val (.int (v0_111 p0 p1))] [(.int z)]) (if_pos hc18) k)
    · skip
      refine XS.icmpYes X17.here hx rfl (pc0 := 119) (pc' := 126) rfl (hb hby at_119) rfl (feq (hc18)).2 (by decide) (by decide) ?_
      show Steps p.tables e below (T17.setTop (mkF m 126 #[.val (.int p0), .val (.int p1), .val (.ref b0_2), .val (.int (v0_84_3 p0 p1)), .val (.long (4294977024 : Int64)), .second, .val (.int (v0_111 p0 p1))] [])) t
      refine SGo.go (T' := T17) (g' := (mkF m 127 #[.val (.int p0), .val (.int p1), .val (.ref b0_2), .val (.int (v0_84_3 p0 p1)), .val (.long (4294977024 : Int64)), .second, .val (.int (v0_111 p0 p1))] [(.int (0 : Int32))])) (fun t k => ?_) ?_
      · show Steps p.tables e below (T17.setTop (mkF m 126 #[.val (.int p0), .val (.int p1), .val (.ref b0_2), .val (.int (v0_84_3 p0 p1)), .val (.long (4294977024 : Int64)), .second, .val (.int (v0_111 p0 p1))] [])) t
        refine XS.iconst X17.here hx rfl (hb hby at_126) ?_
        show Steps p.tables e below (T17.setTop (mkF m 127 #[.val (.int p0), .val (.int p1), .val (.ref b0_2), .val (.int (v0_84_3 p0 p1)), .val (.long (4294977024 : Int64)), .second, .val (.int (v0_111 p0 p1))] [(.int (0 : Int32))])) t
        exact k
      exact (own_k (f := fun (z : Int32) => mkF m 127 #[.val (.int p0), .val (.int p1), .val (.ref b0_2), .val (.int (v0_84_3 p0 p1)), .val (.long (4294977024 : Int64)), .second, .val (.int (v0_111 p0 p1))] [(.int z)]) (if_neg hc18) k)
  exact OEnd.nar X17 hx (t := .boolean) Bd.returns (by simp) hlk (hb hby at_127) ⟨(congrArg (fun z => some (Value.int (nar .boolean z))) (own_plain p0 p1)), N17⟩ (by decide) (by decide)
set_option maxRecDepth 65536 in
set_option maxHeartbeats 40000000 in
theorem comes_1 {Post : Tables → Env → Array Value → State → Outcome → State → Prop} (hpost : ∀ tb e args s v u, (limb_1_1.after args s (.returned v) u = true ∧ limb_1_2.after args s (.returned v) u = true ∧ True) → FrameEnd s (.returned v) u (Jvm.fieldLocs frame_1_writes args s ++ Jvm.arrayLocs frame_1_arrays args s ++ Jvm.staticLocs frame_1_statics s) 16 128 → Post tb e args s (.returned v) u) :
    ArmFor flags0 classFile x code maxLocals ret World_1 tables_1 room_1 Calls_1 rest_1 Pre_1 Post := by
  intro l hfl _ _ p e ha hc hk s m args below hf hA hF happ hP
  obtain ⟨hcalls, hrest, hpre⟩ := hP
  obtain ⟨-, -, -, hnamed, -, -, -, hat⟩ := (Spec.applies_iff hf).mp happ
  obtain ⟨hg, hn⟩ := and_e (Cond.before_iff.mp (show (Jvm.Cond.and given_1 narrow_1).before args s = true from hpre))
  obtain ⟨c1, c2⟩ := and_e hg
  obtain ⟨c3, c4⟩ := and_e c2
  obtain ⟨w0, w1, rfl⟩ : ∃ w0 w1 : Value, args = #[w0, w1] := by
    have hs : args.size = 2 := by simpa [Cond.value, given_1] using c1
    obtain ⟨L⟩ := args
    match L, hs with
    | [w0, w1], _ => exact ⟨w0, w1, rfl⟩
  have hw := fun d (hd : d ∈ tables_1) => atoms_spec (ws := Jvm.Cond.code x code maxLocals ret :: tables_1) hat d (List.mem_cons_of_mem _ hd)
  obtain ⟨i0, ei0⟩ := is_v c3
  obtain rfl : w0 = (.int i0) := Option.some.inj ei0
  obtain ⟨i1, ei1⟩ := is_v c4
  obtain rfl : w1 = (.int i1) := Option.some.inj ei1
  obtain ⟨n, o, h1, h2, h3, _, L, rfl, ⟨rfl, N⟩, hq⟩ := rm0 l s _ hw tables_1 i0 i1 s.heap s.heap.size (Nat.le_refl _)  p e ha hc hk s m _ below hf ((Spec.applies_iff_loose hf).mp happ).1 ⟨rfl, State.Warmed39.refl s, rfl⟩ trivial
  refine ⟨n, _, h1, h2, h3, hpost _ _ _ _ _ _ ⟨Cond.after_iff.mpr rfl, Cond.after_iff.mpr (eq_i res_at (Term.int_eval (1)) rfl), trivial⟩ ⟨hq.1, hq.2.1, (hq.2.2.sift fun y hy => Or.inr (N y hy)).mono (by decide) (by decide)⟩⟩
theorem main_1_1 : Claimed_1_1 := comes_1 fun _ _ _ _ _ _ h hF => ⟨h.1, hF⟩
theorem main_1_2 : Claimed_1_2 := comes_1 fun _ _ _ _ _ _ h hF => ⟨h.2.1, hF⟩
end Jvm.Pilot.@@N@@
namespace Jvm.Pilot.@@N@@
open Jvm Jvm.ClassFile Sem Op Lib Jvm.Free Jvm.Stand Jvm.Pilot.@@N@@.Jvm.D
/-! MADE BY PROGRAM (witnessworld.py) out of the Statement's table words and the real class files: 11 classes; the members and pool entries that the words name. The judged class is class 1, her method 1. -/
namespace start1
open Jvm.ClassFile
def u (s : String) : CpInfo := .utf8 (stringToUtf16 s)
/-- a pool by its gaps: so many unusable entries, then the entry; so many at the end -/
def gap : Nat → List CpInfo → List CpInfo
  | 0, r => r
  | n + 1, r => .unusable :: gap n r
def poolList (es : List (Nat × CpInfo)) (last : Nat) : List CpInfo := es.foldr (fun e r => gap e.1 (e.2 :: r)) (gap last [])
def pool (es : List (Nat × CpInfo)) (last : Nat) : Array CpInfo := ⟨poolList es last⟩
def fileOf (pool : Array CpInfo) (this : Nat) (attrs : Array Attribute := #[]) (ms : Array MethodInfo := #[]) (fl : Nat := 33) (sup : Nat := 0) (ifs : Array Nat := #[]) (fds : Array FieldInfo := #[]) : ClassFile where
  minorVersion := 0
  majorVersion := 65
  constantPool := pool
  accessFlags := fl
  thisClass := this
  superClass := sup
  interfaces := ifs
  fields := fds
  methods := ms
  attributes := attrs
def plain (name : String) (sup : Option ClassId) : Class where
  name := name
  kind := .ordinary
  loader := none
  accessFlags := 33
  super := sup
  interfaces := #[]
  cf := none
  fields := #[]
  methods := #[]
  instanceTypes := #[]
  staticTypes := #[]
  resolved := #[]
  callSites := []
  init := .initialized
  statics := none
  mirror := none

def pool0 : Array CpInfo := pool [(5, u "<init>"), (0, u "()V"), (1, .class_ 10), (1, u "java/lang/Object")] 113

def k0m0 : Method := { name := "<init>", desc := "()V", sig := { parameters := [], returnType := none }, accessFlags := 1, code := none }
/-- java/lang/Object -/
def k0 : Class := { plain "java/lang/Object" none with
  accessFlags := 33
  interfaces := #[]
  cf := some (fileOf pool0 8 #[] #[{ accessFlags := 1, nameIndex := 5, descriptorIndex := 6, attributes := #[] }] 33 0 #[] #[])
  fields := #[]
  methods := #[k0m0]
  instanceTypes := #[]
  staticTypes := #[]
  resolved := Array.replicate 124 none
  statics := none }

def pool1 : Array CpInfo := pool [(2, .class_ 4), (1, u "java/lang/Object"), (0, u "<init>"), (0, u "()V"), (0, .long 4294977024), (1, .methodref 10 11), (0, .class_ 12), (0, .nameAndType 13 14), (0, u "com/example/induce/induce/learn/LexicalSpaces"), (0, u "isWhitespace"), (0, u "(C)Z"), (0, .class_ 16), (0, u "com/example/induce/induce/learn/LexicalSpacesIsWhitespacePinLaw"), (2, u "law"), (0, u "(II)Z")] 5

def k1m0 : Method := { name := "<init>", desc := "()V", sig := { parameters := [], returnType := none }, accessFlags := 2, code := none }
def k1c1 : Code := { maxStack := 4, maxLocals := 7, code := code, exceptionTable := #[], attributes := #[] }
def k1m1 : Method := { name := "law", desc := "(II)Z", sig := { parameters := [.int, .int], returnType := some .boolean }, accessFlags := 9, code := some k1c1 }
/-- com/example/induce/induce/learn/LexicalSpacesIsWhitespacePinLaw -/
def k1 : Class := { plain "com/example/induce/induce/learn/LexicalSpacesIsWhitespacePinLaw" (some 0) with
  accessFlags := 49
  interfaces := #[]
  cf := some (fileOf pool1 15 #[] #[{ accessFlags := 2, nameIndex := 5, descriptorIndex := 6, attributes := #[] }, { accessFlags := 9, nameIndex := 19, descriptorIndex := 20, attributes := #[] }] 49 2 #[] #[])
  fields := #[]
  methods := #[k1m0, k1m1]
  instanceTypes := #[]
  staticTypes := #[]
  resolved := Array.replicate 26 none
  statics := none }

def pool2 : Array CpInfo := pool [(2, .class_ 4), (1, u "java/lang/Object"), (0, u "<init>"), (0, u "()V"), (1, .class_ 10), (1, u "com/example/induce/induce/learn/LexicalSpaces"), (21, .class_ 34), (1, u "com/example/induce/induce/learn/LexicalSpaces$Decimal"), (78, u "isWhitespace"), (0, u "(C)Z"), (53, u "LONGEST"), (0, u "I"), (2, u "DIGITS"), (1, u "FRACTION_AT_59"), (1, u "YEARS"), (0, u "J")] 14

def k2m0 : Method := { name := "<init>", desc := "()V", sig := { parameters := [], returnType := none }, accessFlags := 2, code := none }
def k2c1 : Code := { maxStack := 2, maxLocals := 1, code := prog_38_method_4_code, exceptionTable := #[], attributes := #[] }
def k2m1 : Method := { name := "isWhitespace", desc := "(C)Z", sig := { parameters := [.char], returnType := some .boolean }, accessFlags := 8, code := some k2c1 }
/-- com/example/induce/induce/learn/LexicalSpaces -/
def k2 : Class := { plain "com/example/induce/induce/learn/LexicalSpaces" (some 0) with
  accessFlags := 32
  interfaces := #[]
  cf := some (fileOf pool2 8 #[.nestMembers #[32]] #[{ accessFlags := 2, nameIndex := 5, descriptorIndex := 6, attributes := #[] }, { accessFlags := 8, nameIndex := 113, descriptorIndex := 114, attributes := #[] }] 32 2 #[] #[{ accessFlags := 24, nameIndex := 168, descriptorIndex := 169, attributes := #[] }, { accessFlags := 26, nameIndex := 172, descriptorIndex := 169, attributes := #[] }, { accessFlags := 26, nameIndex := 174, descriptorIndex := 169, attributes := #[] }, { accessFlags := 26, nameIndex := 176, descriptorIndex := 177, attributes := #[] }])
  fields := #[{ name := "LONGEST", type := .int, accessFlags := 24, slot := 0, constantValue := 0 }, { name := "DIGITS", type := .int, accessFlags := 26, slot := 1, constantValue := 0 }, { name := "FRACTION_AT_59", type := .int, accessFlags := 26, slot := 2, constantValue := 0 }, { name := "YEARS", type := .long, accessFlags := 26, slot := 3, constantValue := 0 }]
  methods := #[k2m0, k2m1]
  instanceTypes := #[]
  staticTypes := #[.int, .int, .int, .long]
  resolved := Array.replicate 192 none
  statics := none }

def pool3 : Array CpInfo := pool [(1, u "java/lang/Cloneable"), (0, .class_ 1), (0, u "java/lang/Object"), (0, .class_ 3)] 3

/-- java/lang/Cloneable -/
def k3 : Class := { plain "java/lang/Cloneable" (some 0) with
  accessFlags := 1537
  interfaces := #[]
  cf := some (fileOf pool3 2 #[] #[] 1537 4 #[] #[])
  fields := #[]
  methods := #[]
  instanceTypes := #[]
  staticTypes := #[]
  resolved := Array.replicate 8 none
  statics := none }

def pool4 : Array CpInfo := pool [(1, u "java/io/Serializable"), (0, .class_ 1), (0, u "java/lang/Object"), (0, .class_ 3)] 3

/-- java/io/Serializable -/
def k4 : Class := { plain "java/io/Serializable" (some 0) with
  accessFlags := 1537
  interfaces := #[]
  cf := some (fileOf pool4 2 #[] #[] 1537 4 #[] #[])
  fields := #[]
  methods := #[]
  instanceTypes := #[]
  staticTypes := #[]
  resolved := Array.replicate 8 none
  statics := none }

/-- the primitive byte -/
def k5 : Class := { plain "byte" none with kind := .primitive 'B', accessFlags := 0x411 }
/-- [B -/
def k6 : Class := { plain "[B" (some 0) with kind := .array 5 .byte, interfaces := #[3, 4], accessFlags := 1041 }

/-- the primitive char -/
def k7 : Class := { plain "char" none with kind := .primitive 'C', accessFlags := 0x411 }
/-- [C -/
def k8 : Class := { plain "[C" (some 0) with kind := .array 7 .char, interfaces := #[3, 4], accessFlags := 1041 }

/-- the primitive int -/
def k9 : Class := { plain "int" none with kind := .primitive 'I', accessFlags := 0x411 }
/-- [I -/
def k10 : Class := { plain "[I" (some 0) with kind := .array 9 .int, interfaces := #[3, 4], accessFlags := 1041 }

def heap : Heap := #[]
def classes : Array Class := #[k0, k1, k2, k3, k4, k5, k6, k7, k8, k9, k10]
def interned : List (Array UInt16 × Addr) := []
def slotsUsed : Nat := 0
def theMethod : MethodId := ⟨1, 1⟩
def args0 : Array Value := #[.int 5, .int 7]
def aboutOver (below : List Frame) : State where
  vm := { classes := classes, interned := interned.toArray }
  heap := heap
  slotsUsed := slotsUsed
  threads := #[{ frames := .invoking theMethod args0 :: below }]
def below0 : List Frame := [.native { method := ⟨0, 0⟩, args := #[] }]
def about1 : State := aboutOver below0
def p0 : Program := .bare "" "" ""
def e0 : Env := launch0.env 0 0 0
theorem w_frames : about1.frames = Frame.invoking theMethod args0 :: below0 := rfl
set_option maxRecDepth 65536 in
theorem w_args : argsFit about1.vm theMethod args0 = true := by decide +kernel
set_option maxRecDepth 65536 in
theorem w_heap : heapFits about1 = true := by decide +kernel
set_option maxRecDepth 65536 in
theorem w_runnable : about1.curStatus? = some .runnable := by decide +kernel
set_option maxRecDepth 65536 in
theorem w_alone : about1.alone = true := by decide +kernel
set_option maxRecDepth 65536 in
theorem w_named : about1.methodNamed? x = some theMethod := by decide +kernel
set_option maxRecDepth 65536 in
theorem w_hears : about1.hears theMethod below0 = true := by decide +kernel
set_option maxRecDepth 65536 in
theorem w_ripe : about1.ripe theMethod args0 below0 = true := by decide +kernel
theorem w_running : about1.status = .running := rfl
set_option maxRecDepth 65536 in
theorem w_room : about1.hasRoom e0.platform room_1 = true :=
  launch0.hasRoom_least _ room_1 (by decide +kernel) (by decide +kernel) (by decide +kernel) (by decide +kernel) (by decide +kernel) (by decide +kernel)
theorem allAtoms_all (ts : List Jvm.Cond) (a : Array Jvm.Value) (st : Jvm.State) : (allAtoms ts).before a st = ts.all (fun c => c.before a st) := by
  induction ts with
  | nil => rfl
  | cons c t ih =>
    show (Jvm.Cond.and c (allAtoms t)).before a st = _
    rw [Jvm.Cond.before_and, ih, List.all_cons]
def words1 : List Jvm.Cond := Jvm.Cond.code x code maxLocals ret :: tables_1
/-- a 'code' word, met by the world's own term for the bytes: nothing is compared byte by byte -/
theorem code_word {y : MethodName} {bytes : ByteArray} {mx : Nat} {rt : Option FieldType} {a : Array Value} {s : State} {m : MethodId} {meth : Method} {c : Code} (h1 : s.methodNamed? y = some m) (h2 : s.vm.method? m = some meth) (h3 : meth.code = some c) (h4 : c.code = bytes)
    (h5 : (c.maxLocals == mx && c.exceptionTable.isEmpty && decide (c.maxStack ≤ mostOperands) && decide (meth.sig.returnType = rt) && !meth.locks && decide (parseMethodDescriptor y.desc = some meth.sig)) = true) : (Jvm.Cond.code y bytes mx rt).before a s = true := by
  simp only [Bool.and_eq_true, beq_iff_eq, Bool.not_eq_true', decide_eq_true_eq] at h5
  obtain ⟨⟨⟨⟨⟨g1, g2⟩, g3⟩, g4⟩, g5⟩, g6⟩ := h5
  simp [Cond.before, Cond.holds, Cond.value, h1, h2, h3, h4, g1, g2, g3, g4, g5, g6]
def isCode : Jvm.Cond → Bool
  | .code _ _ _ _ => true
  | _ => false
theorem all_split {L : List Jvm.Cond} {P : Jvm.Cond → Bool} (h1 : L.all (fun c => isCode c || P c) = true) (h2 : ∀ c ∈ L.filter isCode, P c = true) : L.all P = true := by
  refine List.all_eq_true.mpr fun c hc => ?_
  have h := List.all_eq_true.mp h1 c hc
  rcases Bool.eq_false_or_eq_true (isCode c) with hi | hi
  · exact h2 c (List.mem_filter.mpr ⟨hc, hi⟩)
  · simpa [hi] using h
set_option maxRecDepth 65536 in
theorem w_c0 : (Jvm.Cond.code x code maxLocals ret).before args0 about1 = true := code_word (m := ⟨1, 1⟩) (meth := k1m1) (c := k1c1) (by decide +kernel) rfl rfl rfl (by decide +kernel)
set_option maxRecDepth 65536 in
theorem w_c1 : (Jvm.Cond.code ({ cls := "com/example/induce/induce/learn/LexicalSpaces", name := "isWhitespace", desc := "(C)Z" } : Jvm.MethodName) prog_38_method_4_code (1 : Nat) (Option.some Jvm.ClassFile.FieldType.boolean)).before args0 about1 = true := code_word (m := ⟨2, 1⟩) (meth := k2m1) (c := k2c1) (by decide +kernel) rfl rfl rfl (by decide +kernel)
def codes1 : List Jvm.Cond := [Jvm.Cond.code x code maxLocals ret, Jvm.Cond.code ({ cls := "com/example/induce/induce/learn/LexicalSpaces", name := "isWhitespace", desc := "(C)Z" } : Jvm.MethodName) prog_38_method_4_code (1 : Nat) (Option.some Jvm.ClassFile.FieldType.boolean)]
set_option maxRecDepth 65536 in
theorem codes_eq : words1.filter isCode = codes1 := rfl
theorem w_codes : ∀ c ∈ words1.filter isCode, c.before args0 about1 = true := by
  rw [codes_eq]
  intro c hc
  simp only [codes1, List.mem_cons, List.not_mem_nil, or_false] at hc
  rcases hc with rfl | rfl
  · exact w_c0
  · exact w_c1
set_option maxRecDepth 65536 in
theorem w_t1 : words1.all (fun c => isCode c || c.before args0 about1) = true := by decide +kernel
theorem w_tables : (allAtoms (Jvm.Cond.code x code maxLocals ret :: tables_1)).before args0 about1 = true := by
  rw [allAtoms_all]
  show words1.all (fun c => c.before args0 about1) = true
  refine all_split ?_ w_codes
  rw [w_t1]
set_option maxRecDepth 65536 in
theorem w_case : (Jvm.Cond.and given_1 narrow_1).before args0 about1 = true := by decide +kernel
theorem w_applies : (headSpec (Jvm.Cond.code x code maxLocals ret :: tables_1) room_1).applies x e0.platform about1 = true :=
  (Spec.applies_iff w_frames).mpr ⟨w_running, w_runnable, w_alone, w_named, w_hears, w_ripe, w_room, w_tables⟩
theorem atStart : AtStart classFile x code maxLocals ret World_1 tables_1 room_1 Calls_1 rest_1 Pre_1 launch0 p0 e0 about1 theMethod args0 below0 :=
  ⟨lists_1, trivial, launch0.admits_env _ _ _, launch0.least_env, fairChoices_fair.cas, fairChoices_fair.clock, w_frames, w_args, w_heap, w_applies, trivial, trivial, w_case⟩
end start1
theorem witness_1 : WitnessClaimed_1 := ⟨start1.p0, start1.e0, start1.about1, start1.theMethod, start1.args0, start1.below0, start1.atStart⟩
end Jvm.Pilot.@@N@@
