import JvmDerived
import JvmDerived.Pilot.@@N@@Statement
import JvmDerived.Pilot.@@N@@Code
set_option linter.unusedVariables false
set_option linter.unusedSimpArgs false
namespace Jvm.RoadKit
open Sem ClassFile Op Lib Jvm.Stand Jvm.Free Jvm.LawKit
section New
variable {p : Program} {l : Launch} {e : Env} {R : Room} {s : State} {m : MethodId} {args : Array Value} {below : List Frame} {meth : Method} {c : Code} {T : State} {locs : List Loc} {cells slots : Nat}
theorem retI (X : Stand p l e R s m args below meth c T locs cells slots) (hx : p.tables.exec = Jvm.exec) {pc : Nat} {Ls : Array Slot} {z : Int32} {rest : List Value} (hret : meth.sig.returnType = some .int) (hd : decode c.code pc = .ok (.ireturn, 1)) {fs : List Frame}
    (hl : ∀ (f : JFrame) (acts : List Action), f.method = m → f.locked = none → f.entered = [] → (doReturn e (T.setTop f) acts (some (.int z))).1 = T.setFrames fs) : Steps p.tables e below (T.setTop (mkF m pc Ls (.int z :: rest))) (T.setFrames fs) := by
  have hm' : T.vm.method? m = some meth := X.method'
  have hn : narrow .int (.int z) = .int z := rfl
  show Steps p.tables e below (T.setTop { method := m, pc := pc, locals := Ls, stack := _ :: rest, locked := none }) _
  jvm_step X.here [X.here.top, hx, hd, hm', hret, hn]
  first | (intro acts; rw [hl _ acts rfl rfl rfl]) | rw [hl _ _ rfl rfl rfl]
  exact Steps.refl _
end New
end Jvm.RoadKit
namespace Jvm.Pilot.@@N@@
open Jvm Jvm.ClassFile Sem Op Lib Jvm.Free Jvm.Stand Jvm.LawKit Jvm.RoadKit Bundle Jvm.Pilot.@@N@@.Jvm.D
/-! the goals of a walk, and what closes them -/
def OEnd (p : Program) (e : Env) (below : List Frame) (s T : State) (g : JFrame) (Q : Option Value → Heap → List Loc → Prop) (kc ks : Nat) : Prop :=
  ∃ s₂ o, Steps p.tables e below (T.setTop g) s₂ ∧ s₂.status = .running ∧ Ended s₂ below o ∧ ∃ v L, o = .returned v ∧ Q v s₂.heap L ∧ FrameEnd s o s₂ L kc ks
def ORch (p : Program) (l : Launch) (e : Env) (R : Room) (s : State) (m : MethodId) (args : Array Value) (below : List Frame) (meth : Method) (c : Code) (n0 : Nat) (T : State) (g : JFrame) (h : Heap) (g' : JFrame) (cells slots : Nat) : Prop :=
  ∃ T' locs', Stand p l e R s m args below meth c T' locs' cells slots ∧ T'.heap = h ∧ Fr n0 locs' ∧ Goes p e below T g T' g'
def OArr (Z : State) (h : Heap) (a : Addr) (ty : FieldType) (n : Int32) (vs : List Value) (d : Value) : Prop := ∃ k, Arv Z h a k ty n vs d
def ORchH (p : Program) (l : Launch) (e : Env) (R : Room) (s : State) (m : MethodId) (args : Array Value) (below : List Frame) (meth : Method) (c : Code) (n0 : Nat) (T : State) (g : JFrame) (g' : JFrame) (cells slots : Nat) (P : Heap → Prop) : Prop :=
  ∃ T' h' locs', Stand p l e R s m args below meth c T' locs' cells slots ∧ T'.heap = h' ∧ Fr n0 locs' ∧ P h' ∧ Goes p e below T g T' g'
def ORchB (p : Program) (l : Launch) (e : Env) (R : Room) (s : State) (m : MethodId) (args : Array Value) (below : List Frame) (meth : Method) (c : Code) (n0 : Nat) (T : State) (g : JFrame) (g' : Addr → JFrame) (cells slots : Nat) (P : Heap → Addr → Prop) : Prop :=
  ∃ b T' h' locs', Stand p l e R s m args below meth c T' locs' cells slots ∧ T'.heap = h' ∧ Fr n0 locs' ∧ P h' b ∧ Goes p e below T g T' (g' b)
section Own
variable {p : Program} {l : Launch} {e : Env} {R : Room} {s : State} {m : MethodId} {args : Array Value} {below : List Frame} {meth : Method} {c : Code} {T T' : State} {locs : List Loc} {cells slots : Nat} {g g' g'' : JFrame} {Q : Option Value → Heap → List Loc → Prop} {kc ks : Nat}
theorem OEnd.go (k : Goes p e below T g T' g') (h : OEnd p e below s T' g' Q kc ks) : OEnd p e below s T g Q kc ks := by
  obtain ⟨s₂, o, h1, h2⟩ := h
  exact ⟨s₂, o, k _ h1, h2⟩
theorem ORch.go {n0 : Nat} {h : Heap} (k : Goes p e below T g T' g') (q : ORch p l e R s m args below meth c n0 T' g' h g'' cells slots) : ORch p l e R s m args below meth c n0 T g h g'' cells slots := by
  obtain ⟨T2, L2, h1, h2, h3, h4⟩ := q
  exact ⟨T2, L2, h1, h2, h3, fun t kt => k _ (h4 t kt)⟩
theorem ORchH.go {n0 : Nat} {P : Heap → Prop} (k : Goes p e below T g T' g') (q : ORchH p l e R s m args below meth c n0 T' g' g'' cells slots P) : ORchH p l e R s m args below meth c n0 T g g'' cells slots P := by
  obtain ⟨T2, h2, L2, h1, h2, h3, h4, h5⟩ := q
  exact ⟨T2, _, L2, h1, h2, h3, h4, fun t kt => k _ (h5 t kt)⟩
theorem ORchB.go {n0 : Nat} {P : Heap → Addr → Prop} {gb : Addr → JFrame} (k : Goes p e below T g T' g') (q : ORchB p l e R s m args below meth c n0 T' g' gb cells slots P) : ORchB p l e R s m args below meth c n0 T g gb cells slots P := by
  obtain ⟨b, T2, h2, L2, h1, h2, h3, h4, h5⟩ := q
  exact ⟨b, T2, _, L2, h1, h2, h3, h4, fun t kt => k _ (h5 t kt)⟩
theorem SGo.go {t : State} (k : Goes p e below T g T' g') (h : Steps p.tables e below (T'.setTop g') t) : Steps p.tables e below (T.setTop g) t := k _ h
theorem own_k {A : Type} {tb : Tables} {f : A → JFrame} {a b : A} {t : State} (q : a = b) (k : Steps tb e below (T.setTop (f a)) t) : Steps tb e below (T.setTop (f b)) t := q ▸ k
theorem own_symm {A : Type} {a b : A} (h : a = b) : b = a := h.symm
theorem own_via {A : Type} {a b c : A} (h : a = b) (k : a = c) : b = c := h.symm.trans k
theorem own_p {A : Type} {P : A → Prop} {a b : A} (q : a = b) (w : P a) : P b := q ▸ w
theorem own_at {h : Heap} {U : Heap} (q : U = h) {P : Heap → Prop} (w : P h) : P U := q ▸ w
theorem OArr.lt {Z : State} {h : Heap} {a : Addr} {ty : FieldType} {n : Int32} {vs : List Value} {d : Value} (F : OArr Z h a ty n vs d) : a < h.size := by obtain ⟨k, V⟩ := F; exact V.lt
theorem OArr.ext {Z : State} {h h' : Heap} {a : Addr} {ty : FieldType} {n : Int32} {vs : List Value} {d : Value} (F : OArr Z h a ty n vs d) (E : Ext h h') : OArr Z h' a ty n vs d := by obtain ⟨k, V⟩ := F; exact ⟨k, V.ext E⟩
theorem OArr.other {Z : State} {h h' : Heap} {a b : Addr} {ty : FieldType} {n : Int32} {vs : List Value} {d v : Value} {sl : Nat} (F : OArr Z h b ty n vs d) (W : Wr h h' a sl v) (q : b ≠ a) : OArr Z h' b ty n vs d := by obtain ⟨k, V⟩ := F; exact ⟨k, V.other W q⟩
theorem OArr.keep {Z : State} {h h' : Heap} {a : Addr} {ty : FieldType} {n : Int32} {vs : List Value} {d : Value} {ws : List Addr} (F : OArr Z h a ty n vs d) (K : Keep h h' ws) (q : a ∉ ws) : OArr Z h' a ty n vs d := by obtain ⟨k, V⟩ := F; exact ⟨k, V.keep K q⟩
theorem OEnd.int (X : Stand p l e R s m args below meth c T locs cells slots) (hx : p.tables.exec = Jvm.exec) {pc : Nat} {Ls : Array Slot} {z : Int32} {rest : List Value} (hret : meth.sig.returnType = some .int) (hlk : meth.locks = false) (hd : decode c.code pc = .ok (.ireturn, 1)) (hq : Q (some (.int z)) T.heap locs) (hc : cells ≤ kc) (hs : slots ≤ ks) :
    OEnd p e below s T (mkF m pc Ls (.int z :: rest)) Q kc ks := by
  obtain ⟨fs, hr, hrun, hended, hW, hsame⟩ := X.leave (v := some (.int z)) (fun h => by rw [hret] at h; cases h) hlk
  exact ⟨_, _, retI X hx hret hd hr, hrun, hended, _, _, rfl, hq, ⟨_, rfl⟩, hW, hsame.mono hc hs⟩
theorem OEnd.nar (X : Stand p l e R s m args below meth c T locs cells slots) (hx : p.tables.exec = Jvm.exec) {pc : Nat} {Ls : Array Slot} {z : Int32} {rest : List Value} {t : FieldType} (hret : meth.sig.returnType = some t) (ht : t = .boolean ∨ t = .byte ∨ t = .char ∨ t = .short) (hlk : meth.locks = false) (hd : decode c.code pc = .ok (.ireturn, 1)) (hq : Q (some (.int (nar t z))) T.heap locs) (hc : cells ≤ kc) (hs : slots ≤ ks) :
    OEnd p e below s T (mkF m pc Ls (.int z :: rest)) Q kc ks := by
  obtain ⟨fs, hr, hrun, hended, hW, hsame⟩ := X.leave (v := some (.int (RoadKit.nar t z))) (fun h => by rw [hret] at h; cases h) hlk
  exact ⟨_, _, retN X hx hret ht hd hr, hrun, hended, _, _, rfl, hq, ⟨_, rfl⟩, hW, hsame.mono hc hs⟩
theorem OEnd.long (X : Stand p l e R s m args below meth c T locs cells slots) (hx : p.tables.exec = Jvm.exec) {pc : Nat} {Ls : Array Slot} {z : Int64} (hret : meth.sig.returnType = some .long) (hlk : meth.locks = false) (hd : decode c.code pc = .ok (.lreturn, 1)) (hq : Q (some (.long z)) T.heap locs) (hc : cells ≤ kc) (hs : slots ≤ ks) :
    OEnd p e below s T (mkF m pc Ls [.long z]) Q kc ks := by
  obtain ⟨fs, hr, hrun, hended, hW, hsame⟩ := X.leave (v := some (.long z)) (fun h => by rw [hret] at h; cases h) hlk
  exact ⟨_, _, X.lreturnOut hx hret hd hr, hrun, hended, _, _, rfl, hq, ⟨_, rfl⟩, hW, hsame.mono hc hs⟩
theorem OEnd.void (X : Stand p l e R s m args below meth c T locs cells slots) (hx : p.tables.exec = Jvm.exec) {pc : Nat} {Ls : Array Slot} (hret : meth.sig.returnType = none) (hlk : meth.locks = false) (hd : decode c.code pc = .ok (.return_, 1)) (hq : Q none T.heap locs) (hc : cells ≤ kc) (hs : slots ≤ ks) :
    OEnd p e below s T (mkF m pc Ls []) Q kc ks := by
  obtain ⟨fs, hr, hrun, hended, hW, hsame⟩ := X.leave (v := none) (fun _ => rfl) hlk
  exact ⟨_, _, X.returnOut hx hret hd hr, hrun, hended, _, _, rfl, hq, ⟨_, rfl⟩, hW, hsame.mono hc hs⟩
theorem OEnd.ref (X : Stand p l e R s m args below meth c T locs cells slots) (hx : p.tables.exec = Jvm.exec) {pc : Nat} {Ls : Array Slot} {a : Addr} {t : FieldType} (hret : meth.sig.returnType = some t) (ht : t.isReference = true) (hlk : meth.locks = false) (hd : decode c.code pc = .ok (.areturn, 1)) (hq : Q (some (.ref a)) T.heap locs) (hc : cells ≤ kc) (hs : slots ≤ ks) :
    OEnd p e below s T (mkF m pc Ls [.ref a]) Q kc ks := by
  obtain ⟨fs, hr, hrun, hended, hW, hsame⟩ := X.leave (v := some (.ref a)) (fun h => by rw [hret] at h; cases h) hlk
  have hm' : T.vm.method? m = some meth := X.method'
  have st : Steps p.tables e below (T.setTop (mkF m pc Ls [.ref a])) (T.setFrames fs) := by
    show Steps p.tables e below (T.setTop { method := m, pc := pc, locals := Ls, stack := [_], locked := none }) _
    jvm_step X.here [X.here.top, hx, hd, hm', hret, ht, Value.isRef]
    first | (intro acts; rw [hr _ acts rfl rfl rfl]) | rw [hr _ _ rfl rfl rfl]
    exact Steps.refl _
  exact ⟨_, _, st, hrun, hended, _, _, rfl, hq, ⟨_, rfl⟩, hW, hsame.mono hc hs⟩
end Own
def OEndW (p : Program) (e : Env) (below : List Frame) (s T : State) (g : JFrame) (Q : Option Value → Heap → List Loc → Prop) (kc ks : Nat) : Prop :=
  ∃ s₂ o, Steps p.tables e below (T.setTop g) s₂ ∧ s₂.status = .running ∧ Ended s₂ below o ∧ ∃ v L, o = .returned v ∧ Q v s₂.heap L ∧ ReturnedEndW s o s₂ L kc ks
section OwnW
variable {p : Program} {l : Launch} {e : Env} {R : Room} {s : State} {m : MethodId} {args : Array Value} {below : List Frame} {meth : Method} {c : Code} {T T' : State} {locs : List Loc} {cells slots : Nat} {g g' g'' : JFrame} {Q : Option Value → Heap → List Loc → Prop} {kc ks : Nat} {vm₁ : Vm} {n : Nat}
theorem OEndW.go (k : Goes p e below T g T' g') (h : OEndW p e below s T' g' Q kc ks) : OEndW p e below s T g Q kc ks := by
  obtain ⟨s₂, o, h1, h2⟩ := h
  exact ⟨s₂, o, k _ h1, h2⟩
theorem own_monoW {o : Outcome} {t : State} {L : List Loc} {a b a' b' : Nat} (h : ReturnedEndW s o t L a b) (h1 : a ≤ a') (h2 : b ≤ b') : ReturnedEndW s o t L a' b' := ⟨h.1, h.2.1, h.2.2.1, h.2.2.2.mono h1 h2⟩
theorem OEndW.nar (X : Stand p l e R (s.setVm vm₁) m args below meth c T locs cells slots) (hS : s.Since vm₁ n) (hn : n ≤ T.heap.size) (hx : p.tables.exec = Jvm.exec) {pc : Nat} {Ls : Array Slot} {z : Int32} {rest : List Value} {t : FieldType} (hret : meth.sig.returnType = some t) (ht : t = .boolean ∨ t = .byte ∨ t = .char ∨ t = .short) (hlk : meth.locks = false) (hd : decode c.code pc = .ok (.ireturn, 1)) (hq : Q (some (.int (nar t z))) T.heap locs) (hc : cells ≤ kc) (hs : slots ≤ ks) :
    OEndW p e below s T (mkF m pc Ls (.int z :: rest)) Q kc ks := by
  obtain ⟨fs, hr, hrun, hended, hW⟩ := X.leaveW hS hn (v := some (.int (RoadKit.nar t z))) (fun h => by rw [hret] at h; cases h) hlk
  exact ⟨_, _, retN X hx hret ht hd hr, hrun, hended, _, _, rfl, hq, own_monoW hW hc hs⟩
theorem OEndW.void (X : Stand p l e R (s.setVm vm₁) m args below meth c T locs cells slots) (hS : s.Since vm₁ n) (hn : n ≤ T.heap.size) (hx : p.tables.exec = Jvm.exec) {pc : Nat} {Ls : Array Slot} (hret : meth.sig.returnType = none) (hlk : meth.locks = false) (hd : decode c.code pc = .ok (.return_, 1)) (hq : Q none T.heap locs) (hc : cells ≤ kc) (hs : slots ≤ ks) :
    OEndW p e below s T (mkF m pc Ls []) Q kc ks := by
  obtain ⟨fs, hr, hrun, hended, hW⟩ := X.leaveW hS hn (v := none) (fun _ => rfl) hlk
  exact ⟨_, _, X.returnOut hx hret hd hr, hrun, hended, _, _, rfl, hq, own_monoW hW hc hs⟩
end OwnW
theorem own_wS {Z : State} {aZ : Array Value} (hw : ∀ d ∈ tables_1, d.before aZ Z = true) : ∀ a ∈ Bundle.stringAtoms, a.before aZ Z = true := List.forall_mem_cons.mpr ⟨(hw _ (List.mem_of_getElem? (i := 30) rfl)), List.forall_mem_cons.mpr ⟨(hw _ (List.mem_of_getElem? (i := 31) rfl)), List.forall_mem_cons.mpr ⟨(hw _ (List.mem_of_getElem? (i := 32) rfl)), List.forall_mem_cons.mpr ⟨(hw _ (List.mem_of_getElem? (i := 33) rfl)), List.forall_mem_cons.mpr ⟨(hw _ (List.mem_of_getElem? (i := 34) rfl)), List.forall_mem_cons.mpr ⟨(hw _ (List.mem_of_getElem? (i := 35) rfl)), List.forall_mem_cons.mpr ⟨(hw _ (List.mem_of_getElem? (i := 36) rfl)), fun _ h => nomatch h⟩⟩⟩⟩⟩⟩⟩
theorem d1_0 : decode method_2_code 0 = .ok (.iload_n 0, 1) := by decide +kernel
theorem d1_1 : decode method_2_code 1 = .ok (.iload_n 1, 1) := by decide +kernel
theorem d1_2 : decode method_2_code 2 = .ok (.ishr, 1) := by decide +kernel
theorem d1_3 : decode method_2_code 3 = .ok (.iconst 1, 1) := by decide +kernel
theorem d1_4 : decode method_2_code 4 = .ok (.iand, 1) := by decide +kernel
theorem d1_5 : decode method_2_code 5 = .ok (.ifCond .eq 7, 3) := by decide +kernel
theorem d1_12 : decode method_2_code 12 = .ok (.lload_n 2, 1) := by decide +kernel
theorem d1_8 : decode method_2_code 8 = .ok (.lconst 0, 1) := by decide +kernel
theorem d1_9 : decode method_2_code 9 = .ok (.goto 4, 3) := by decide +kernel
theorem d1_13 : decode method_2_code 13 = .ok (.lreturn, 1) := by decide +kernel
def f1 (p0 : Int32) (p1 : Int32) (q2 : Int64) : Int64 := (if ((p0 >>> (p1 &&& 31)) &&& (1 : Int32)) = (0 : Int32) then q2 else (0 : Int64))
theorem pn_com_example_vestledger_vestledger_ledger_SuspenseIsEmptyPinLaw : plainName "com/example/vestledger/vestledger/ledger/SuspenseIsEmptyPinLaw" = true := by first | (simp [plainName, overriddenIn]; done) | decide +kernel
theorem ef_1 (m : MethodId) (x0 : Int32) (x1 : Int32) (x2 : Int64) : entryFrame m #[(.int x0), (.int x1), (.long x2)] 4 = mkF m 0 #[.val (.int x0), .val (.int x1), .val (.long x2), .second] [] := by first | (simp [entryFrame, mkF, argsToLocals, Value.category]; done) | rfl
def Q1 (Z : State) (p0 : Int32) (p1 : Int32) (q2 : Int64) (h0 : Heap) (n0 : Nat) (v : Option Value) (h : Heap) (L : List Loc) : Prop := v = some (.long (f1 p0 p1 q2)) ∧ Fr n0 L ∧ h = h0
set_option maxRecDepth 65536 in
set_option maxHeartbeats 40000000 in
theorem rm1 (l : Launch) (Z : State) (aZ : Array Value) (hw : ∀ d ∈ tables_1, d.before aZ Z = true) (ws : List Jvm.Cond) (p0 : Int32) (p1 : Int32) (q2 : Int64) (h0 : Heap) (n0 : Nat) (Z0 : n0 ≤ h0.size) :
    MetFree l (⟨"com/example/vestledger/vestledger/ledger/SuspenseIsEmptyPinLaw", "pick", "(IIJ)J"⟩ : MethodName) (head1 (Jvm.Cond.code (⟨"com/example/vestledger/vestledger/ledger/SuspenseIsEmptyPinLaw", "pick", "(IIJ)J"⟩ : MethodName) method_2_code 4 (some .long) :: ws) ({ frames := 0, cells := 0, slots := 0, locals := 0 } : Room)) (fun a U => a = #[(.int p0), (.int p1), (.long q2)] ∧ Z.Warmed39 U.vm ∧ U.heap = h0) (fun _ _ _ _ _ => True) (fun _ U o U' => ∃ v L, o = .returned v ∧ Q1 Z p0 p1 q2 h0 n0 v U'.heap L ∧ FrameEnd U o U' L ({ frames := 0, cells := 0, slots := 0, locals := 0 } : Room).cells ({ frames := 0, cells := 0, slots := 0, locals := 0 } : Room).slots) := by
  refine MetFree.of_bodySF (plainFor_of_name pn_com_example_vestledger_vestledger_ledger_SuspenseIsEmptyPinLaw) hisR ?_
  intro p e s m args below meth c s₁ Bd hml0 hP hK
  obtain ⟨rfl, hZ, hh⟩ := hP
  have hx := Bd.exec
  have hby := Bd.bytes
  have hlk : meth.locks = false := BodyLoose.notSynchronized Bd
  have hml : c.maxLocals = 4 := hml0
  have hown : s.vm.findClass "com/example/vestledger/vestledger/ledger/SuspenseIsEmptyPinLaw" = some m.cls := findClass_of_methodNamed Bd.named
  have hnm := (name_of_methodNamed Bd.named Bd.method).1
  have X0 : Stand p l e ({ frames := 0, cells := 0, slots := 0, locals := 0 } : Room) s m #[(.int p0), (.int p1), (.long q2)] below meth c s₁ [] 0 0 := Stand.of_body Bd
  have e0 : s₁.heap = h0 := by rw [← hh, Bd.state]; rfl
  have N0 := Fr.nil n0
  show OEnd p e below s s₁ (entryFrame m #[(.int p0), (.int p1), (.long q2)] 4) (Q1 Z p0 p1 q2 h0 n0) ({ frames := 0, cells := 0, slots := 0, locals := 0 } : Room).cells ({ frames := 0, cells := 0, slots := 0, locals := 0 } : Room).slots
  refine OEnd.go (g' := (mkF m 0 #[.val (.int p0), .val (.int p1), .val (.long q2), .second] [])) (fun _ k => castTop (ef_1 m p0 p1 q2) k) ?_
  refine OEnd.go (T' := s₁) (g' := (mkF m 5 #[.val (.int p0), .val (.int p1), .val (.long q2), .second] [(.int ((p0 >>> (p1 &&& 31)) &&& (1 : Int32)))])) (fun t k => ?_) ?_
  · show Steps p.tables e below (s₁.setTop (mkF m 0 #[.val (.int p0), .val (.int p1), .val (.long q2), .second] [])) t
    refine XS.iloadN X0.here hx rfl (hb hby d1_0) rfl ?_
    show Steps p.tables e below (s₁.setTop (mkF m 1 #[.val (.int p0), .val (.int p1), .val (.long q2), .second] [(.int p0)])) t
    refine XS.iloadN X0.here hx rfl (hb hby d1_1) rfl ?_
    show Steps p.tables e below (s₁.setTop (mkF m 2 #[.val (.int p0), .val (.int p1), .val (.long q2), .second] [(.int p1), (.int p0)])) t
    refine XS.ishr X0.here hx rfl (hb hby d1_2) rfl ?_
    show Steps p.tables e below (s₁.setTop (mkF m 3 #[.val (.int p0), .val (.int p1), .val (.long q2), .second] [(.int (p0 >>> (p1 &&& 31)))])) t
    refine XS.iconst X0.here hx rfl (hb hby d1_3) ?_
    show Steps p.tables e below (s₁.setTop (mkF m 4 #[.val (.int p0), .val (.int p1), .val (.long q2), .second] [(.int (1 : Int32)), (.int (p0 >>> (p1 &&& 31)))])) t
    refine XS.iand X0.here hx rfl (hb hby d1_4) rfl ?_
    show Steps p.tables e below (s₁.setTop (mkF m 5 #[.val (.int p0), .val (.int p1), .val (.long q2), .second] [(.int ((p0 >>> (p1 &&& 31)) &&& (1 : Int32)))])) t
    exact k
  refine OEnd.go (T' := s₁) (g' := (mkF m 13 #[.val (.int p0), .val (.int p1), .val (.long q2), .second] [(.long (if ((p0 >>> (p1 &&& 31)) &&& (1 : Int32)) = (0 : Int32) then q2 else (0 : Int64)))])) (fun t k => ?_) ?_
  · show Steps p.tables e below (s₁.setTop (mkF m 5 #[.val (.int p0), .val (.int p1), .val (.long q2), .second] [(.int ((p0 >>> (p1 &&& 31)) &&& (1 : Int32)))])) t
    by_cases hc1 : ((p0 >>> (p1 &&& 31)) &&& (1 : Int32)) = (0 : Int32)
    · skip
      refine XS.ifYes X0.here hx rfl (pc0 := 5) (pc' := 12) rfl (hb hby d1_5) rfl ((if0 _ _).trans (teq (hc1)).1) (by decide) (by decide) ?_
      show Steps p.tables e below (s₁.setTop (mkF m 12 #[.val (.int p0), .val (.int p1), .val (.long q2), .second] [])) t
      refine SGo.go (T' := s₁) (g' := (mkF m 13 #[.val (.int p0), .val (.int p1), .val (.long q2), .second] [(.long q2)])) (fun t k => ?_) ?_
      · show Steps p.tables e below (s₁.setTop (mkF m 12 #[.val (.int p0), .val (.int p1), .val (.long q2), .second] [])) t
        refine XS.lloadN X0.here hx rfl (hb hby d1_12) rfl ?_
        show Steps p.tables e below (s₁.setTop (mkF m 13 #[.val (.int p0), .val (.int p1), .val (.long q2), .second] [(.long q2)])) t
        exact k
      exact (own_k (f := fun (z : Int64) => mkF m 13 #[.val (.int p0), .val (.int p1), .val (.long q2), .second] [(.long z)]) (if_pos hc1) k)
    · skip
      refine XS.ifNo X0.here hx rfl (hb hby d1_5) rfl ((if0 _ _).trans (feq (hc1)).1) ?_
      show Steps p.tables e below (s₁.setTop (mkF m 8 #[.val (.int p0), .val (.int p1), .val (.long q2), .second] [])) t
      refine SGo.go (T' := s₁) (g' := (mkF m 13 #[.val (.int p0), .val (.int p1), .val (.long q2), .second] [(.long (0 : Int64))])) (fun t k => ?_) ?_
      · show Steps p.tables e below (s₁.setTop (mkF m 8 #[.val (.int p0), .val (.int p1), .val (.long q2), .second] [])) t
        refine XS.lconst X0.here hx rfl (hb hby d1_8) ?_
        show Steps p.tables e below (s₁.setTop (mkF m 9 #[.val (.int p0), .val (.int p1), .val (.long q2), .second] [(.long (0 : Int64))])) t
        refine XS.goto X0.here hx rfl (pc0 := 9) (pc' := 13) rfl (hb hby d1_9) (by decide) (by decide) ?_
        show Steps p.tables e below (s₁.setTop (mkF m 13 #[.val (.int p0), .val (.int p1), .val (.long q2), .second] [(.long (0 : Int64))])) t
        exact k
      exact (own_k (f := fun (z : Int64) => mkF m 13 #[.val (.int p0), .val (.int p1), .val (.long q2), .second] [(.long z)]) (if_neg hc1) k)
  exact OEnd.long X0 hx Bd.returns hlk (hb hby d1_13) ⟨rfl, N0, e0⟩ (by decide) (by decide)
theorem d3_0 : decode jdk_30_method_1_code 0 = .ok (.aload_n 0, 1) := by decide +kernel
theorem d3_1 : decode jdk_30_method_1_code 1 = .ok (.invokespecial 1, 3) := by decide +kernel
theorem d3_4 : decode jdk_30_method_1_code 4 = .ok (.return_, 1) := by decide +kernel
theorem pn_java_lang_Record : plainName "java/lang/Record" = true := by first | (simp [plainName, overriddenIn]; done) | decide +kernel
theorem ef_3 (m : MethodId) (x0 : Addr) : entryFrame m #[(.ref x0)] 1 = mkF m 0 #[.val (.ref x0)] [] := by first | (simp [entryFrame, mkF, argsToLocals, Value.category]; done) | rfl
def Q3 (Z : State) (a0 : Addr) (h0 : Heap) (n0 : Nat) (v : Option Value) (h : Heap) (L : List Loc) : Prop := v = none ∧ Fr n0 L ∧ h = h0
set_option maxRecDepth 65536 in
set_option maxHeartbeats 40000000 in
theorem rm3 (l : Launch) (Z : State) (aZ : Array Value) (hw : ∀ d ∈ tables_1, d.before aZ Z = true) (ws : List Jvm.Cond) (a0 : Addr) (h0 : Heap) (n0 : Nat) (Z0 : n0 ≤ h0.size) :
    MetFree l (⟨"java/lang/Record", "<init>", "()V"⟩ : MethodName) (head1 (Jvm.Cond.code (⟨"java/lang/Record", "<init>", "()V"⟩ : MethodName) jdk_30_method_1_code 1 none :: ws) ({ frames := 1, cells := 0, slots := 0, locals := 12 } : Room)) (fun a U => a = #[(.ref a0)] ∧ Z.Warmed39 U.vm ∧ U.heap = h0) (fun _ _ _ _ _ => True) (fun _ U o U' => ∃ v L, o = .returned v ∧ Q3 Z a0 h0 n0 v U'.heap L ∧ FrameEnd U o U' L ({ frames := 1, cells := 0, slots := 0, locals := 12 } : Room).cells ({ frames := 1, cells := 0, slots := 0, locals := 12 } : Room).slots) := by
  refine MetFree.of_bodySF (plainFor_of_name pn_java_lang_Record) hisR ?_
  intro p e s m args below meth c s₁ Bd hml0 hP hK
  obtain ⟨rfl, hZ, hh⟩ := hP
  have hx := Bd.exec
  have hby := Bd.bytes
  have hlk : meth.locks = false := BodyLoose.notSynchronized Bd
  have hml : c.maxLocals = 1 := hml0
  have hown : s.vm.findClass "java/lang/Record" = some m.cls := findClass_of_methodNamed Bd.named
  have hnm := (name_of_methodNamed Bd.named Bd.method).1
  have X0 : Stand p l e ({ frames := 1, cells := 0, slots := 0, locals := 12 } : Room) s m #[(.ref a0)] below meth c s₁ [] 0 0 := Stand.of_body Bd
  have e0 : s₁.heap = h0 := by rw [← hh, Bd.state]; rfl
  have N0 := Fr.nil n0
  show OEnd p e below s s₁ (entryFrame m #[(.ref a0)] 1) (Q3 Z a0 h0 n0) ({ frames := 1, cells := 0, slots := 0, locals := 12 } : Room).cells ({ frames := 1, cells := 0, slots := 0, locals := 12 } : Room).slots
  refine OEnd.go (g' := (mkF m 0 #[.val (.ref a0)] [])) (fun _ k => castTop (ef_3 m a0) k) ?_
  refine OEnd.go (T' := s₁) (g' := (mkF m 1 #[.val (.ref a0)] [(.ref a0)])) (fun t k => ?_) ?_
  · show Steps p.tables e below (s₁.setTop (mkF m 0 #[.val (.ref a0)] [])) t
    refine XS.aloadN X0.here hx rfl (hb hby d3_0) rfl rfl ?_
    show Steps p.tables e below (s₁.setTop (mkF m 1 #[.val (.ref a0)] [(.ref a0)])) t
    exact k
  obtain ⟨T1, X1, e1, st1⟩ := initO X0 hx hZ hown (hw _ (List.mem_of_getElem? (i := 15) rfl)) (hw _ (List.mem_of_getElem? (i := 16) rfl)) (hw _ (List.mem_of_getElem? (i := 17) rfl)) e0 (g := (mkF m 1 #[.val (.ref a0)] [(.ref a0)])) rfl (by rw [hml]; rfl) rfl (hb hby d3_1) (by decide) (W := 0) (by show 2 * 0 + _ ≤ _; exact Nat.le_of_eq rfl) (by decide)
  refine OEnd.go (g' := (mkF m 4 #[.val (.ref a0)] [])) st1 ?_
  exact OEnd.void X1 hx Bd.returns hlk (hb hby d3_4) ⟨rfl, N0, e1⟩ (by decide) (by decide)
theorem d2_0 : decode prog_86_method_1_code 0 = .ok (.aload_n 0, 1) := by decide +kernel
theorem d2_1 : decode prog_86_method_1_code 1 = .ok (.invokespecial 1, 3) := by decide +kernel
theorem pd___V : parseMethodDescriptor "()V" = some ⟨[], none⟩ := by decide +kernel
theorem d2_4 : decode prog_86_method_1_code 4 = .ok (.aload_n 0, 1) := by decide +kernel
theorem d2_5 : decode prog_86_method_1_code 5 = .ok (.lload_n 1, 1) := by decide +kernel
theorem d2_6 : decode prog_86_method_1_code 6 = .ok (.putfield 7, 3) := by decide +kernel
theorem d2_9 : decode prog_86_method_1_code 9 = .ok (.aload_n 0, 1) := by decide +kernel
theorem d2_10 : decode prog_86_method_1_code 10 = .ok (.lload_n 3, 1) := by decide +kernel
theorem d2_11 : decode prog_86_method_1_code 11 = .ok (.putfield 13, 3) := by decide +kernel
theorem d2_14 : decode prog_86_method_1_code 14 = .ok (.return_, 1) := by decide +kernel
theorem pn_com_example_vestledger_vestledger_rules_Balance : plainName "com/example/vestledger/vestledger/rules/Balance" = true := by first | (simp [plainName, overriddenIn]; done) | decide +kernel
theorem ef_2 (m : MethodId) (x0 : Addr) (x1 : Int64) (x2 : Int64) : entryFrame m #[(.ref x0), (.long x1), (.long x2)] 5 = mkF m 0 #[.val (.ref x0), .val (.long x1), .second, .val (.long x2), .second] [] := by first | (simp [entryFrame, mkF, argsToLocals, Value.category]; done) | rfl
def Q2 (Z : State) (a0 : Addr) (q1 : Int64) (q2 : Int64) (h0 : Heap) (n0 : Nat) (v : Option Value) (h : Heap) (L : List Loc) : Prop := v = none ∧ Fr n0 L ∧ Keep h0 h [a0] ∧ Exa Z h a0 "com/example/vestledger/vestledger/rules/Balance" ∧ Fld Z h a0 "com/example/vestledger/vestledger/rules/Balance" "cashCents" "J" (.long q1) ∧ Fld Z h a0 "com/example/vestledger/vestledger/rules/Balance" "shareUnits" "J" (.long q2)
set_option maxRecDepth 65536 in
set_option maxHeartbeats 40000000 in
theorem rm2 (l : Launch) (Z : State) (aZ : Array Value) (hw : ∀ d ∈ tables_1, d.before aZ Z = true) (ws : List Jvm.Cond) (a0 : Addr) (q1 : Int64) (q2 : Int64) (h0 : Heap) (n0 : Nat) (Z0 : n0 ≤ h0.size) (Fc : Fld Z h0 a0 "com/example/vestledger/vestledger/rules/Balance" "cashCents" "J" (.long (0 : Int64))) (Fs : Fld Z h0 a0 "com/example/vestledger/vestledger/rules/Balance" "shareUnits" "J" (.long (0 : Int64))) (E0 : Exa Z h0 a0 "com/example/vestledger/vestledger/rules/Balance") (g0 : n0 ≤ a0) :
    MetFree l (⟨"com/example/vestledger/vestledger/rules/Balance", "<init>", "(JJ)V"⟩ : MethodName) (head1 (Jvm.Cond.code (⟨"com/example/vestledger/vestledger/rules/Balance", "<init>", "(JJ)V"⟩ : MethodName) prog_86_method_1_code 5 none :: ws) ({ frames := 2, cells := 0, slots := 0, locals := 24 } : Room)) (fun a U => a = #[(.ref a0), (.long q1), (.long q2)] ∧ Z.Warmed39 U.vm ∧ U.heap = h0) (fun _ _ _ _ _ => True) (fun _ U o U' => ∃ v L, o = .returned v ∧ Q2 Z a0 q1 q2 h0 n0 v U'.heap L ∧ FrameEnd U o U' L ({ frames := 2, cells := 0, slots := 0, locals := 24 } : Room).cells ({ frames := 2, cells := 0, slots := 0, locals := 24 } : Room).slots) := by
  refine MetFree.of_bodySF (plainFor_of_name pn_com_example_vestledger_vestledger_rules_Balance) hisR ?_
  intro p e s m args below meth c s₁ Bd hml0 hP hK
  obtain ⟨rfl, hZ, hh⟩ := hP
  have hx := Bd.exec
  have hby := Bd.bytes
  have hlk : meth.locks = false := BodyLoose.notSynchronized Bd
  have hml : c.maxLocals = 5 := hml0
  have hown : s.vm.findClass "com/example/vestledger/vestledger/rules/Balance" = some m.cls := findClass_of_methodNamed Bd.named
  have hnm := (name_of_methodNamed Bd.named Bd.method).1
  have X0 : Stand p l e ({ frames := 2, cells := 0, slots := 0, locals := 24 } : Room) s m #[(.ref a0), (.long q1), (.long q2)] below meth c s₁ [] 0 0 := Stand.of_body Bd
  have e0 : s₁.heap = h0 := by rw [← hh, Bd.state]; rfl
  have N0 := Fr.nil n0
  have K0 : Keep h0 h0 [a0] := Keep.refl _ _
  show OEnd p e below s s₁ (entryFrame m #[(.ref a0), (.long q1), (.long q2)] 5) (Q2 Z a0 q1 q2 h0 n0) ({ frames := 2, cells := 0, slots := 0, locals := 24 } : Room).cells ({ frames := 2, cells := 0, slots := 0, locals := 24 } : Room).slots
  refine OEnd.go (g' := (mkF m 0 #[.val (.ref a0), .val (.long q1), .second, .val (.long q2), .second] [])) (fun _ k => castTop (ef_2 m a0 q1 q2) k) ?_
  refine OEnd.go (T' := s₁) (g' := (mkF m 1 #[.val (.ref a0), .val (.long q1), .second, .val (.long q2), .second] [(.ref a0)])) (fun t k => ?_) ?_
  · show Steps p.tables e below (s₁.setTop (mkF m 0 #[.val (.ref a0), .val (.long q1), .second, .val (.long q2), .second] [])) t
    refine XS.aloadN X0.here hx rfl (hb hby d2_0) rfl rfl ?_
    show Steps p.tables e below (s₁.setTop (mkF m 1 #[.val (.ref a0), .val (.long q1), .second, .val (.long q2), .second] [(.ref a0)])) t
    exact k
  obtain ⟨_, _, ⟨T1, L1, k1, n1⟩, -, X1, ⟨Lc1, hQ1, l1, y1, z1⟩, st1⟩ := X0.specialBack hx (y := (⟨"java/lang/Record", "<init>", "()V"⟩ : MethodName)) rfl hown (mvT hZ (hw _ (List.mem_of_getElem? (i := 10) rfl))) (mvT hZ (hw _ (List.mem_of_getElem? (i := 11) rfl))) (mvT hZ (hw _ (List.mem_of_getElem? (i := 14) rfl))) (by decide) (backOf (W := 0) (rm3 l Z aZ hw [] a0 h0 n0 Z0 ) hZ (hw _ (List.mem_of_getElem? (i := 14) rfl)) (hw _ (List.mem_of_getElem? (i := 13) rfl)) (by decide) (by decide)) (g := (mkF m 1 #[.val (.ref a0), .val (.long q1), .second, .val (.long q2), .second] [(.ref a0)])) rfl (by rw [hml]; rfl) (Steps.refl _) (a := a0) (argsL := []) (rest := []) (lenOf pd___V rfl) rfl (by show 2 * 0 + _ ≤ _; exact Nat.le_of_eq rfl) (hb hby d2_1) (fun _ _ => ⟨rfl, e0, (by decide : 0 + 0 ≤ _), (by decide : 0 + 0 ≤ _)⟩)
  dsimp only [Pt.U, Pt.locs, Pt.cells, Pt.slots] at X1 l1 y1 z1 st1 hQ1
  subst l1 y1 z1
  obtain ⟨rfl, N1q, e1⟩ := hQ1
  have N1 := Fr.app N0 N1q
  refine OEnd.go (g' := (mkF m 4 #[.val (.ref a0), .val (.long q1), .second, .val (.long q2), .second] [])) (fun _ k => st1.trans k) ?_
  refine OEnd.go (T' := T1) (g' := (mkF m 6 #[.val (.ref a0), .val (.long q1), .second, .val (.long q2), .second] [(.long q1), (.ref a0)])) (fun t k => ?_) ?_
  · show Steps p.tables e below (T1.setTop (mkF m 4 #[.val (.ref a0), .val (.long q1), .second, .val (.long q2), .second] [])) t
    refine XS.aloadN X1.here hx rfl (hb hby d2_4) rfl rfl ?_
    show Steps p.tables e below (T1.setTop (mkF m 5 #[.val (.ref a0), .val (.long q1), .second, .val (.long q2), .second] [(.ref a0)])) t
    refine XS.lloadN X1.here hx rfl (hb hby d2_5) rfl ?_
    show Steps p.tables e below (T1.setTop (mkF m 6 #[.val (.ref a0), .val (.long q1), .second, .val (.long q2), .second] [(.long q1), (.ref a0)])) t
    exact k
  obtain ⟨T2, h2, X2, e2, W2, st2⟩ := putF X1 hx hZ hown (host := "") (Or.inl (hw _ (List.mem_of_getElem? (i := 18) rfl))) Via.refl e1 Fc E0 (Or.inr ⟨(hw _ (List.mem_of_getElem? (i := 19) rfl)), rfl, hnm⟩) (hw _ (List.mem_of_getElem? (i := 5) rfl)) (ty := .long) (by decide) rfl rfl (g := (mkF m 6 #[.val (.ref a0), .val (.long q1), .second, .val (.long q2), .second] [(.long q1), (.ref a0)])) rfl rfl (hb hby d2_6)
  have N2 := Fr.snoc X2 N1 g0
  have Z2 : n0 ≤ h2.size := Nat.le_trans Z0 (Keep.of_wr W2).1
  have K2 : Keep h0 h2 [a0] := K0.wr W2 (Or.inl (List.mem_of_getElem? (i := 0) rfl))
  have fc3 : Fld Z h2 a0 "com/example/vestledger/vestledger/rules/Balance" "cashCents" "J" (.long q1) := (Fc.same W2)
  have fc4 : Fld Z h2 a0 "com/example/vestledger/vestledger/rules/Balance" "shareUnits" "J" (.long (0 : Int64)) := (Fs.other W2 (Or.inr (slot_ne (Or.inr (hw _ (List.mem_of_getElem? (i := 21) rfl))) (Or.inr (hw _ (List.mem_of_getElem? (i := 19) rfl))) (by decide) (t := .long) (t' := .long) (by decide) (by decide))))
  have fc5 : Exa Z h2 a0 "com/example/vestledger/vestledger/rules/Balance" := (E0.wr W2)
  refine OEnd.go (g' := (mkF m 9 #[.val (.ref a0), .val (.long q1), .second, .val (.long q2), .second] [])) st2 ?_
  refine OEnd.go (T' := T2) (g' := (mkF m 11 #[.val (.ref a0), .val (.long q1), .second, .val (.long q2), .second] [(.long q2), (.ref a0)])) (fun t k => ?_) ?_
  · show Steps p.tables e below (T2.setTop (mkF m 9 #[.val (.ref a0), .val (.long q1), .second, .val (.long q2), .second] [])) t
    refine XS.aloadN X2.here hx rfl (hb hby d2_9) rfl rfl ?_
    show Steps p.tables e below (T2.setTop (mkF m 10 #[.val (.ref a0), .val (.long q1), .second, .val (.long q2), .second] [(.ref a0)])) t
    refine XS.lloadN X2.here hx rfl (hb hby d2_10) rfl ?_
    show Steps p.tables e below (T2.setTop (mkF m 11 #[.val (.ref a0), .val (.long q1), .second, .val (.long q2), .second] [(.long q2), (.ref a0)])) t
    exact k
  obtain ⟨T6, h6, X6, e6, W6, st6⟩ := putF X2 hx hZ hown (host := "") (Or.inl (hw _ (List.mem_of_getElem? (i := 20) rfl))) Via.refl e2 fc4 fc5 (Or.inr ⟨(hw _ (List.mem_of_getElem? (i := 21) rfl)), rfl, hnm⟩) (hw _ (List.mem_of_getElem? (i := 5) rfl)) (ty := .long) (by decide) rfl rfl (g := (mkF m 11 #[.val (.ref a0), .val (.long q1), .second, .val (.long q2), .second] [(.long q2), (.ref a0)])) rfl rfl (hb hby d2_11)
  have N6 := Fr.snoc X6 N2 g0
  have Z6 : n0 ≤ h6.size := Nat.le_trans Z2 (Keep.of_wr W6).1
  have K6 : Keep h0 h6 [a0] := K2.wr W6 (Or.inl (List.mem_of_getElem? (i := 0) rfl))
  have fc7 : Fld Z h6 a0 "com/example/vestledger/vestledger/rules/Balance" "cashCents" "J" (.long q1) := (fc3.other W6 (Or.inr (slot_ne (Or.inr (hw _ (List.mem_of_getElem? (i := 19) rfl))) (Or.inr (hw _ (List.mem_of_getElem? (i := 21) rfl))) (by decide) (t := .long) (t' := .long) (by decide) (by decide))))
  have fc8 : Fld Z h6 a0 "com/example/vestledger/vestledger/rules/Balance" "shareUnits" "J" (.long q2) := (fc4.same W6)
  have fc9 : Exa Z h6 a0 "com/example/vestledger/vestledger/rules/Balance" := (fc5.wr W6)
  refine OEnd.go (g' := (mkF m 14 #[.val (.ref a0), .val (.long q1), .second, .val (.long q2), .second] [])) st6 ?_
  exact OEnd.void X6 hx Bd.returns hlk (hb hby d2_14) ⟨rfl, N6, (own_at e6 (P := fun h => Keep h0 h [a0]) K6), (own_at e6 (P := fun h => Exa Z h a0 "com/example/vestledger/vestledger/rules/Balance") fc9), (own_at e6 (P := fun h => Fld Z h a0 "com/example/vestledger/vestledger/rules/Balance" "cashCents" "J" (.long q1)) fc7), (own_at e6 (P := fun h => Fld Z h a0 "com/example/vestledger/vestledger/rules/Balance" "shareUnits" "J" (.long q2)) fc8)⟩ (by decide) (by decide)
theorem d6_0 : decode jdk_31_method_11_code 0 = .ok (.aload_n 0, 1) := by decide +kernel
theorem d6_1 : decode jdk_31_method_11_code 1 = .ok (.ifnonnull 12, 3) := by decide +kernel
theorem d6_13 : decode jdk_31_method_11_code 13 = .ok (.aload_n 0, 1) := by decide +kernel
theorem d6_14 : decode jdk_31_method_11_code 14 = .ok (.areturn, 1) := by decide +kernel
theorem pn_java_util_Objects : plainName "java/util/Objects" = true := by first | (simp [plainName, overriddenIn]; done) | decide +kernel
theorem ef_6 (m : MethodId) (x0 : Addr) (x1 : Addr) : entryFrame m #[(.ref x0), (.ref x1)] 2 = mkF m 0 #[.val (.ref x0), .val (.ref x1)] [] := by first | (simp [entryFrame, mkF, argsToLocals, Value.category]; done) | rfl
def Q6 (Z : State) (a0 : Addr) (a1 : Addr) (h0 : Heap) (n0 : Nat) (v : Option Value) (h : Heap) (L : List Loc) : Prop := v = some (.ref a0) ∧ Fr n0 L ∧ h = h0
set_option maxRecDepth 65536 in
set_option maxHeartbeats 40000000 in
theorem rm6 (l : Launch) (Z : State) (aZ : Array Value) (hw : ∀ d ∈ tables_1, d.before aZ Z = true) (ws : List Jvm.Cond) (a0 : Addr) (a1 : Addr) (h0 : Heap) (n0 : Nat) (Z0 : n0 ≤ h0.size) :
    MetFree l (⟨"java/util/Objects", "requireNonNull", "(Ljava/lang/Object;Ljava/lang/String;)Ljava/lang/Object;"⟩ : MethodName) (head1 (Jvm.Cond.code (⟨"java/util/Objects", "requireNonNull", "(Ljava/lang/Object;Ljava/lang/String;)Ljava/lang/Object;"⟩ : MethodName) jdk_31_method_11_code 2 (some (.object "java/lang/Object")) :: ws) ({ frames := 0, cells := 0, slots := 0, locals := 0 } : Room)) (fun a U => a = #[(.ref a0), (.ref a1)] ∧ Z.Warmed39 U.vm ∧ U.heap = h0) (fun _ _ _ _ _ => True) (fun _ U o U' => ∃ v L, o = .returned v ∧ Q6 Z a0 a1 h0 n0 v U'.heap L ∧ FrameEnd U o U' L ({ frames := 0, cells := 0, slots := 0, locals := 0 } : Room).cells ({ frames := 0, cells := 0, slots := 0, locals := 0 } : Room).slots) := by
  refine MetFree.of_bodySF (plainFor_of_name pn_java_util_Objects) hisR ?_
  intro p e s m args below meth c s₁ Bd hml0 hP hK
  obtain ⟨rfl, hZ, hh⟩ := hP
  have hx := Bd.exec
  have hby := Bd.bytes
  have hlk : meth.locks = false := BodyLoose.notSynchronized Bd
  have hml : c.maxLocals = 2 := hml0
  have hown : s.vm.findClass "java/util/Objects" = some m.cls := findClass_of_methodNamed Bd.named
  have hnm := (name_of_methodNamed Bd.named Bd.method).1
  have X0 : Stand p l e ({ frames := 0, cells := 0, slots := 0, locals := 0 } : Room) s m #[(.ref a0), (.ref a1)] below meth c s₁ [] 0 0 := Stand.of_body Bd
  have e0 : s₁.heap = h0 := by rw [← hh, Bd.state]; rfl
  have N0 := Fr.nil n0
  show OEnd p e below s s₁ (entryFrame m #[(.ref a0), (.ref a1)] 2) (Q6 Z a0 a1 h0 n0) ({ frames := 0, cells := 0, slots := 0, locals := 0 } : Room).cells ({ frames := 0, cells := 0, slots := 0, locals := 0 } : Room).slots
  refine OEnd.go (g' := (mkF m 0 #[.val (.ref a0), .val (.ref a1)] [])) (fun _ k => castTop (ef_6 m a0 a1) k) ?_
  refine OEnd.go (T' := s₁) (g' := (mkF m 14 #[.val (.ref a0), .val (.ref a1)] [(.ref a0)])) (fun t k => ?_) ?_
  · show Steps p.tables e below (s₁.setTop (mkF m 0 #[.val (.ref a0), .val (.ref a1)] [])) t
    refine XS.aloadN X0.here hx rfl (hb hby d6_0) rfl rfl ?_
    show Steps p.tables e below (s₁.setTop (mkF m 1 #[.val (.ref a0), .val (.ref a1)] [(.ref a0)])) t
    refine XS.ifnonnullYes X0.here hx rfl (pc0 := 1) (pc' := 13) rfl (hb hby d6_1) rfl (by decide) (by decide) ?_
    show Steps p.tables e below (s₁.setTop (mkF m 13 #[.val (.ref a0), .val (.ref a1)] [])) t
    refine XS.aloadN X0.here hx rfl (hb hby d6_13) rfl rfl ?_
    show Steps p.tables e below (s₁.setTop (mkF m 14 #[.val (.ref a0), .val (.ref a1)] [(.ref a0)])) t
    exact k
  exact OEnd.ref X0 hx Bd.returns rfl hlk (hb hby d6_14) ⟨rfl, N0, e0⟩ (by decide) (by decide)
theorem d5_0 : decode prog_69_method_1_code 0 = .ok (.aload_n 0, 1) := by decide +kernel
theorem d5_1 : decode prog_69_method_1_code 1 = .ok (.invokespecial 1, 3) := by decide +kernel
theorem d5_4 : decode prog_69_method_1_code 4 = .ok (.aload_n 1, 1) := by decide +kernel
theorem d5_5 : decode prog_69_method_1_code 5 = .ok (.ldc 7, 2) := by decide +kernel
theorem d5_7 : decode prog_69_method_1_code 7 = .ok (.invokestatic 9, 3) := by decide +kernel
theorem pd__Ljava_lang_Object_Ljava_lang_String__Ljava_lang_Object_ : parseMethodDescriptor "(Ljava/lang/Object;Ljava/lang/String;)Ljava/lang/Object;" = some ⟨[(.object "java/lang/Object"), (.object "java/lang/String")], some (.object "java/lang/Object")⟩ := by decide +kernel
theorem d5_10 : decode prog_69_method_1_code 10 = .ok (.pop, 1) := by decide +kernel
theorem d5_11 : decode prog_69_method_1_code 11 = .ok (.aload_n 2, 1) := by decide +kernel
theorem d5_12 : decode prog_69_method_1_code 12 = .ok (.ldc 15, 2) := by decide +kernel
theorem d5_14 : decode prog_69_method_1_code 14 = .ok (.invokestatic 9, 3) := by decide +kernel
theorem d5_17 : decode prog_69_method_1_code 17 = .ok (.pop, 1) := by decide +kernel
theorem d5_18 : decode prog_69_method_1_code 18 = .ok (.aload_n 0, 1) := by decide +kernel
theorem d5_19 : decode prog_69_method_1_code 19 = .ok (.aload_n 1, 1) := by decide +kernel
theorem d5_20 : decode prog_69_method_1_code 20 = .ok (.putfield 17, 3) := by decide +kernel
theorem d5_23 : decode prog_69_method_1_code 23 = .ok (.aload_n 0, 1) := by decide +kernel
theorem d5_24 : decode prog_69_method_1_code 24 = .ok (.aload_n 2, 1) := by decide +kernel
theorem d5_25 : decode prog_69_method_1_code 25 = .ok (.putfield 22, 3) := by decide +kernel
theorem d5_28 : decode prog_69_method_1_code 28 = .ok (.return_, 1) := by decide +kernel
theorem pn_com_example_vestledger_vestledger_ledger_Suspense : plainName "com/example/vestledger/vestledger/ledger/Suspense" = true := by first | (simp [plainName, overriddenIn]; done) | decide +kernel
theorem ef_5 (m : MethodId) (x0 : Addr) (x1 : Addr) (x2 : Addr) : entryFrame m #[(.ref x0), (.ref x1), (.ref x2)] 3 = mkF m 0 #[.val (.ref x0), .val (.ref x1), .val (.ref x2)] [] := by first | (simp [entryFrame, mkF, argsToLocals, Value.category]; done) | rfl
def Q5 (Z : State) (a0 : Addr) (a1 : Addr) (a2 : Addr) (h0 : Heap) (n0 : Nat) (v : Option Value) (h : Heap) (L : List Loc) : Prop := v = none ∧ Fr n0 L ∧ Keep h0 h [a0] ∧ Exa Z h a0 "com/example/vestledger/vestledger/ledger/Suspense" ∧ Fld Z h a0 "com/example/vestledger/vestledger/ledger/Suspense" "released" "Lcom/example/vestledger/vestledger/rules/Balance;" (.ref a1) ∧ Fld Z h a0 "com/example/vestledger/vestledger/ledger/Suspense" "held" "Lcom/example/vestledger/vestledger/rules/Balance;" (.ref a2)
set_option maxRecDepth 65536 in
set_option maxHeartbeats 40000000 in
theorem rm5 (l : Launch) (Z : State) (aZ : Array Value) (hw : ∀ d ∈ tables_1, d.before aZ Z = true) (ws : List Jvm.Cond) (a0 : Addr) (a1 : Addr) (a2 : Addr) (h0 : Heap) (n0 : Nat) (Z0 : n0 ≤ h0.size) (Fre : Fld Z h0 a0 "com/example/vestledger/vestledger/ledger/Suspense" "released" "Lcom/example/vestledger/vestledger/rules/Balance;" .null) (Fhe : Fld Z h0 a0 "com/example/vestledger/vestledger/ledger/Suspense" "held" "Lcom/example/vestledger/vestledger/rules/Balance;" .null) (E0 : Exa Z h0 a0 "com/example/vestledger/vestledger/ledger/Suspense") (g0 : n0 ≤ a0) :
    MetFree l (⟨"com/example/vestledger/vestledger/ledger/Suspense", "<init>", "(Lcom/example/vestledger/vestledger/rules/Balance;Lcom/example/vestledger/vestledger/rules/Balance;)V"⟩ : MethodName) (head1 (Jvm.Cond.code (⟨"com/example/vestledger/vestledger/ledger/Suspense", "<init>", "(Lcom/example/vestledger/vestledger/rules/Balance;Lcom/example/vestledger/vestledger/rules/Balance;)V"⟩ : MethodName) prog_69_method_1_code 3 none :: ws) ({ frames := 2, cells := 4, slots := 56, locals := 24 } : Room)) (fun a U => a = #[(.ref a0), (.ref a1), (.ref a2)] ∧ Z.Warmed39 U.vm ∧ U.heap = h0) (fun _ _ _ _ _ => True) (fun _ U o U' => ∃ v L, o = .returned v ∧ Q5 Z a0 a1 a2 h0 n0 v U'.heap L ∧ ReturnedEndW U o U' L ({ frames := 2, cells := 4, slots := 56, locals := 24 } : Room).cells ({ frames := 2, cells := 4, slots := 56, locals := 24 } : Room).slots) := by
  refine MetFree.of_bodySF (plainFor_of_name pn_com_example_vestledger_vestledger_ledger_Suspense) hisR ?_
  intro p e s m args below meth c s₁ Bd hml0 hP hK
  obtain ⟨rfl, hZ, hh⟩ := hP
  have hx := Bd.exec
  have hby := Bd.bytes
  have hlk : meth.locks = false := BodyLoose.notSynchronized Bd
  have hml : c.maxLocals = 3 := hml0
  have hown : s.vm.findClass "com/example/vestledger/vestledger/ledger/Suspense" = some m.cls := findClass_of_methodNamed Bd.named
  have hnm := (name_of_methodNamed Bd.named Bd.method).1
  have X0 : Stand p l e ({ frames := 2, cells := 4, slots := 56, locals := 24 } : Room) s m #[(.ref a0), (.ref a1), (.ref a2)] below meth c s₁ [] 0 0 := Stand.of_body Bd
  have e0 : s₁.heap = h0 := by rw [← hh, Bd.state]; rfl
  have N0 := Fr.nil n0
  have K0 : Keep h0 h0 [a0] := Keep.refl _ _
  show OEndW p e below s s₁ (entryFrame m #[(.ref a0), (.ref a1), (.ref a2)] 3) (Q5 Z a0 a1 a2 h0 n0) ({ frames := 2, cells := 4, slots := 56, locals := 24 } : Room).cells ({ frames := 2, cells := 4, slots := 56, locals := 24 } : Room).slots
  refine OEndW.go (g' := (mkF m 0 #[.val (.ref a0), .val (.ref a1), .val (.ref a2)] [])) (fun _ k => castTop (ef_5 m a0 a1 a2) k) ?_
  refine OEndW.go (T' := s₁) (g' := (mkF m 1 #[.val (.ref a0), .val (.ref a1), .val (.ref a2)] [(.ref a0)])) (fun t k => ?_) ?_
  · show Steps p.tables e below (s₁.setTop (mkF m 0 #[.val (.ref a0), .val (.ref a1), .val (.ref a2)] [])) t
    refine XS.aloadN X0.here hx rfl (hb hby d5_0) rfl rfl ?_
    show Steps p.tables e below (s₁.setTop (mkF m 1 #[.val (.ref a0), .val (.ref a1), .val (.ref a2)] [(.ref a0)])) t
    exact k
  obtain ⟨_, _, ⟨T1, L1, k1, n1⟩, -, X1, ⟨Lc1, hQ1, l1, y1, z1⟩, st1⟩ := X0.specialBack hx (y := (⟨"java/lang/Record", "<init>", "()V"⟩ : MethodName)) rfl hown (mvT hZ (hw _ (List.mem_of_getElem? (i := 28) rfl))) (mvT hZ (hw _ (List.mem_of_getElem? (i := 11) rfl))) (mvT hZ (hw _ (List.mem_of_getElem? (i := 14) rfl))) (by decide) (backOf (W := 0) (rm3 l Z aZ hw [] a0 h0 n0 Z0 ) hZ (hw _ (List.mem_of_getElem? (i := 14) rfl)) (hw _ (List.mem_of_getElem? (i := 13) rfl)) (by decide) (by decide)) (g := (mkF m 1 #[.val (.ref a0), .val (.ref a1), .val (.ref a2)] [(.ref a0)])) rfl (by rw [hml]; rfl) (Steps.refl _) (a := a0) (argsL := []) (rest := []) (lenOf pd___V rfl) rfl (by show 2 * 0 + _ ≤ _; exact Nat.le_of_eq rfl) (hb hby d5_1) (fun _ _ => ⟨rfl, e0, (by decide : 0 + 0 ≤ _), (by decide : 0 + 0 ≤ _)⟩)
  dsimp only [Pt.U, Pt.locs, Pt.cells, Pt.slots] at X1 l1 y1 z1 st1 hQ1
  subst l1 y1 z1
  obtain ⟨rfl, N1q, e1⟩ := hQ1
  have N1 := Fr.app N0 N1q
  refine OEndW.go (g' := (mkF m 4 #[.val (.ref a0), .val (.ref a1), .val (.ref a2)] [])) (fun _ k => st1.trans k) ?_
  refine OEndW.go (T' := T1) (g' := (mkF m 5 #[.val (.ref a0), .val (.ref a1), .val (.ref a2)] [(.ref a1)])) (fun t k => ?_) ?_
  · show Steps p.tables e below (T1.setTop (mkF m 4 #[.val (.ref a0), .val (.ref a1), .val (.ref a2)] [])) t
    refine XS.aloadN X1.here hx rfl (hb hby d5_4) rfl rfl ?_
    show Steps p.tables e below (T1.setTop (mkF m 5 #[.val (.ref a0), .val (.ref a1), .val (.ref a2)] [(.ref a1)])) t
    exact k
  have XW2 : Stand p l e _ (s.setVm s.vm) m _ below meth c _ _ _ _ := X1
  obtain ⟨c5_5, T2, h2, k2, X2, e2, E2, hS2, hk2, hZ, hown, st2⟩ := ldcS XW2 hx hZ hown (hw _ (List.mem_of_getElem? (i := 29) rfl)) (own_wS hw) e1 (State.WarmedH.since (State.WarmedH.refl s) 0) (Nat.zero_le _) (g := (mkF m 5 #[.val (.ref a0), .val (.ref a1), .val (.ref a2)] [(.ref a1)])) rfl (hb hby d5_5) (n := 32) (by decide +kernel) (by decide) (by decide) (by decide)
  have fc3 : Fld Z h2 a0 "com/example/vestledger/vestledger/ledger/Suspense" "released" "Lcom/example/vestledger/vestledger/rules/Balance;" .null := (Fre.ext E2)
  have fc4 : Fld Z h2 a0 "com/example/vestledger/vestledger/ledger/Suspense" "held" "Lcom/example/vestledger/vestledger/rules/Balance;" .null := (Fhe.ext E2)
  have fc5 : Exa Z h2 a0 "com/example/vestledger/vestledger/ledger/Suspense" := (E0.ext E2)
  have Z2 : n0 ≤ h2.size := Nat.le_trans Z0 E2.1
  have K2 : Keep h0 h2 [a0] := K0.ext E2
  refine OEndW.go (g' := (mkF m 7 #[.val (.ref a0), .val (.ref a1), .val (.ref a2)] [(.ref c5_5), (.ref a1)])) st2 ?_
  obtain ⟨_, _, ⟨T6, L6, k6, n6⟩, -, X6, ⟨Lc6, hQ6, l6, y6, z6⟩, st6⟩ := Jvm.LawKit.callS X2 hx (y := (⟨"java/util/Objects", "requireNonNull", "(Ljava/lang/Object;Ljava/lang/String;)Ljava/lang/Object;"⟩ : MethodName)) hown (mvT hZ (hw _ (List.mem_of_getElem? (i := 37) rfl))) (mvT hZ (hw _ (List.mem_of_getElem? (i := 38) rfl))) (mvT hZ (hw _ (List.mem_of_getElem? (i := 39) rfl))) (mvT hZ (hw _ (List.mem_of_getElem? (i := 40) rfl))) (by decide) (backOf (W := 0) (rm6 l Z aZ hw [] a1 c5_5 h2 n0 Z2 ) hZ (hw _ (List.mem_of_getElem? (i := 40) rfl)) (hw _ (List.mem_of_getElem? (i := 39) rfl)) (by decide) (by decide)) (g := (mkF m 7 #[.val (.ref a0), .val (.ref a1), .val (.ref a2)] [(.ref c5_5), (.ref a1)])) rfl (by rw [hml]; rfl) (argsL := [(.ref a1), (.ref c5_5)]) (rest := []) (lenOf pd__Ljava_lang_Object_Ljava_lang_String__Ljava_lang_Object_ rfl) rfl (by show 2 * 0 + _ ≤ _; exact Nat.le_of_eq rfl) (hb hby d5_7) (fun _ _ => ⟨rfl, e2, (by decide : 2 + 0 ≤ _), (by decide : 36 + 0 ≤ _)⟩)
  dsimp only [Pt.U, Pt.locs, Pt.cells, Pt.slots] at X6 l6 y6 z6 st6 hQ6
  subst l6 y6 z6
  obtain ⟨rfl, N6q, e6⟩ := hQ6
  have N6 := Fr.app N1 N6q
  refine OEndW.go (g' := (mkF m 10 #[.val (.ref a0), .val (.ref a1), .val (.ref a2)] [(.ref a1)])) st6 ?_
  refine OEndW.go (T' := T6) (g' := (mkF m 12 #[.val (.ref a0), .val (.ref a1), .val (.ref a2)] [(.ref a2)])) (fun t k => ?_) ?_
  · show Steps p.tables e below (T6.setTop (mkF m 10 #[.val (.ref a0), .val (.ref a1), .val (.ref a2)] [(.ref a1)])) t
    refine XS.pop X6.here hx rfl (hb hby d5_10) rfl rfl ?_
    show Steps p.tables e below (T6.setTop (mkF m 11 #[.val (.ref a0), .val (.ref a1), .val (.ref a2)] [])) t
    refine XS.aloadN X6.here hx rfl (hb hby d5_11) rfl rfl ?_
    show Steps p.tables e below (T6.setTop (mkF m 12 #[.val (.ref a0), .val (.ref a1), .val (.ref a2)] [(.ref a2)])) t
    exact k
  obtain ⟨c5_12, T7, h7, k7, X7, e7, E7, hS7, hk7, hZ, hown, st7⟩ := ldcS X6 hx hZ hown (hw _ (List.mem_of_getElem? (i := 41) rfl)) (own_wS hw) e6 hS2 hk2 (g := (mkF m 12 #[.val (.ref a0), .val (.ref a1), .val (.ref a2)] [(.ref a2)])) rfl (hb hby d5_12) (n := 16) (by decide +kernel) (by decide) (by decide) (by decide)
  have fc8 : Fld Z h7 a0 "com/example/vestledger/vestledger/ledger/Suspense" "released" "Lcom/example/vestledger/vestledger/rules/Balance;" .null := (fc3.ext E7)
  have fc9 : Fld Z h7 a0 "com/example/vestledger/vestledger/ledger/Suspense" "held" "Lcom/example/vestledger/vestledger/rules/Balance;" .null := (fc4.ext E7)
  have fc10 : Exa Z h7 a0 "com/example/vestledger/vestledger/ledger/Suspense" := (fc5.ext E7)
  have Z7 : n0 ≤ h7.size := Nat.le_trans Z2 E7.1
  have K7 : Keep h0 h7 [a0] := K2.ext E7
  refine OEndW.go (g' := (mkF m 14 #[.val (.ref a0), .val (.ref a1), .val (.ref a2)] [(.ref c5_12), (.ref a2)])) st7 ?_
  obtain ⟨_, _, ⟨T11, L11, k11, n11⟩, -, X11, ⟨Lc11, hQ11, l11, y11, z11⟩, st11⟩ := Jvm.LawKit.callS X7 hx (y := (⟨"java/util/Objects", "requireNonNull", "(Ljava/lang/Object;Ljava/lang/String;)Ljava/lang/Object;"⟩ : MethodName)) hown (mvT hZ (hw _ (List.mem_of_getElem? (i := 37) rfl))) (mvT hZ (hw _ (List.mem_of_getElem? (i := 38) rfl))) (mvT hZ (hw _ (List.mem_of_getElem? (i := 39) rfl))) (mvT hZ (hw _ (List.mem_of_getElem? (i := 40) rfl))) (by decide) (backOf (W := 0) (rm6 l Z aZ hw [] a2 c5_12 h7 n0 Z7 ) hZ (hw _ (List.mem_of_getElem? (i := 40) rfl)) (hw _ (List.mem_of_getElem? (i := 39) rfl)) (by decide) (by decide)) (g := (mkF m 14 #[.val (.ref a0), .val (.ref a1), .val (.ref a2)] [(.ref c5_12), (.ref a2)])) rfl (by rw [hml]; rfl) (argsL := [(.ref a2), (.ref c5_12)]) (rest := []) (lenOf pd__Ljava_lang_Object_Ljava_lang_String__Ljava_lang_Object_ rfl) rfl (by show 2 * 0 + _ ≤ _; exact Nat.le_of_eq rfl) (hb hby d5_14) (fun _ _ => ⟨rfl, e7, (by decide : 4 + 0 ≤ _), (by decide : 56 + 0 ≤ _)⟩)
  dsimp only [Pt.U, Pt.locs, Pt.cells, Pt.slots] at X11 l11 y11 z11 st11 hQ11
  subst l11 y11 z11
  obtain ⟨rfl, N11q, e11⟩ := hQ11
  have N11 := Fr.app N6 N11q
  refine OEndW.go (g' := (mkF m 17 #[.val (.ref a0), .val (.ref a1), .val (.ref a2)] [(.ref a2)])) st11 ?_
  refine OEndW.go (T' := T11) (g' := (mkF m 20 #[.val (.ref a0), .val (.ref a1), .val (.ref a2)] [(.ref a1), (.ref a0)])) (fun t k => ?_) ?_
  · show Steps p.tables e below (T11.setTop (mkF m 17 #[.val (.ref a0), .val (.ref a1), .val (.ref a2)] [(.ref a2)])) t
    refine XS.pop X11.here hx rfl (hb hby d5_17) rfl rfl ?_
    show Steps p.tables e below (T11.setTop (mkF m 18 #[.val (.ref a0), .val (.ref a1), .val (.ref a2)] [])) t
    refine XS.aloadN X11.here hx rfl (hb hby d5_18) rfl rfl ?_
    show Steps p.tables e below (T11.setTop (mkF m 19 #[.val (.ref a0), .val (.ref a1), .val (.ref a2)] [(.ref a0)])) t
    refine XS.aloadN X11.here hx rfl (hb hby d5_19) rfl rfl ?_
    show Steps p.tables e below (T11.setTop (mkF m 20 #[.val (.ref a0), .val (.ref a1), .val (.ref a2)] [(.ref a1), (.ref a0)])) t
    exact k
  obtain ⟨T12, h12, X12, e12, W12, st12⟩ := putF X11 hx hZ hown (host := "") (Or.inl (hw _ (List.mem_of_getElem? (i := 42) rfl))) Via.refl e11 fc8 fc10 (Or.inr ⟨(hw _ (List.mem_of_getElem? (i := 43) rfl)), rfl, hnm⟩) (hw _ (List.mem_of_getElem? (i := 23) rfl)) (ty := (.object "com/example/vestledger/vestledger/rules/Balance")) (by decide) rfl rfl (g := (mkF m 20 #[.val (.ref a0), .val (.ref a1), .val (.ref a2)] [(.ref a1), (.ref a0)])) rfl rfl (hb hby d5_20)
  have N12 := Fr.snoc X12 N11 g0
  have Z12 : n0 ≤ h12.size := Nat.le_trans Z7 (Keep.of_wr W12).1
  have hk12 := Nat.le_trans hk7 (Keep.of_wr W12).1
  have K12 : Keep h0 h12 [a0] := K7.wr W12 (Or.inl (List.mem_of_getElem? (i := 0) rfl))
  have fc13 : Fld Z h12 a0 "com/example/vestledger/vestledger/ledger/Suspense" "released" "Lcom/example/vestledger/vestledger/rules/Balance;" (.ref a1) := (fc8.same W12)
  have fc14 : Fld Z h12 a0 "com/example/vestledger/vestledger/ledger/Suspense" "held" "Lcom/example/vestledger/vestledger/rules/Balance;" .null := (fc9.other W12 (Or.inr (slot_ne (Or.inr (hw _ (List.mem_of_getElem? (i := 45) rfl))) (Or.inr (hw _ (List.mem_of_getElem? (i := 43) rfl))) (by decide) (t := (.object "com/example/vestledger/vestledger/rules/Balance")) (t' := (.object "com/example/vestledger/vestledger/rules/Balance")) (by decide) (by decide))))
  have fc15 : Exa Z h12 a0 "com/example/vestledger/vestledger/ledger/Suspense" := (fc10.wr W12)
  refine OEndW.go (g' := (mkF m 23 #[.val (.ref a0), .val (.ref a1), .val (.ref a2)] [])) st12 ?_
  refine OEndW.go (T' := T12) (g' := (mkF m 25 #[.val (.ref a0), .val (.ref a1), .val (.ref a2)] [(.ref a2), (.ref a0)])) (fun t k => ?_) ?_
  · show Steps p.tables e below (T12.setTop (mkF m 23 #[.val (.ref a0), .val (.ref a1), .val (.ref a2)] [])) t
    refine XS.aloadN X12.here hx rfl (hb hby d5_23) rfl rfl ?_
    show Steps p.tables e below (T12.setTop (mkF m 24 #[.val (.ref a0), .val (.ref a1), .val (.ref a2)] [(.ref a0)])) t
    refine XS.aloadN X12.here hx rfl (hb hby d5_24) rfl rfl ?_
    show Steps p.tables e below (T12.setTop (mkF m 25 #[.val (.ref a0), .val (.ref a1), .val (.ref a2)] [(.ref a2), (.ref a0)])) t
    exact k
  obtain ⟨T16, h16, X16, e16, W16, st16⟩ := putF X12 hx hZ hown (host := "") (Or.inl (hw _ (List.mem_of_getElem? (i := 44) rfl))) Via.refl e12 fc14 fc15 (Or.inr ⟨(hw _ (List.mem_of_getElem? (i := 45) rfl)), rfl, hnm⟩) (hw _ (List.mem_of_getElem? (i := 23) rfl)) (ty := (.object "com/example/vestledger/vestledger/rules/Balance")) (by decide) rfl rfl (g := (mkF m 25 #[.val (.ref a0), .val (.ref a1), .val (.ref a2)] [(.ref a2), (.ref a0)])) rfl rfl (hb hby d5_25)
  have N16 := Fr.snoc X16 N12 g0
  have Z16 : n0 ≤ h16.size := Nat.le_trans Z12 (Keep.of_wr W16).1
  have hk16 := Nat.le_trans hk12 (Keep.of_wr W16).1
  have K16 : Keep h0 h16 [a0] := K12.wr W16 (Or.inl (List.mem_of_getElem? (i := 0) rfl))
  have fc17 : Fld Z h16 a0 "com/example/vestledger/vestledger/ledger/Suspense" "released" "Lcom/example/vestledger/vestledger/rules/Balance;" (.ref a1) := (fc13.other W16 (Or.inr (slot_ne (Or.inr (hw _ (List.mem_of_getElem? (i := 43) rfl))) (Or.inr (hw _ (List.mem_of_getElem? (i := 45) rfl))) (by decide) (t := (.object "com/example/vestledger/vestledger/rules/Balance")) (t' := (.object "com/example/vestledger/vestledger/rules/Balance")) (by decide) (by decide))))
  have fc18 : Fld Z h16 a0 "com/example/vestledger/vestledger/ledger/Suspense" "held" "Lcom/example/vestledger/vestledger/rules/Balance;" (.ref a2) := (fc14.same W16)
  have fc19 : Exa Z h16 a0 "com/example/vestledger/vestledger/ledger/Suspense" := (fc15.wr W16)
  refine OEndW.go (g' := (mkF m 28 #[.val (.ref a0), .val (.ref a1), .val (.ref a2)] [])) st16 ?_
  exact OEndW.void X16 hS7 (by rw [e16]; exact hk16) hx Bd.returns hlk (hb hby d5_28) ⟨rfl, N16, (own_at e16 (P := fun h => Keep h0 h [a0]) K16), (own_at e16 (P := fun h => Exa Z h a0 "com/example/vestledger/vestledger/ledger/Suspense") fc19), (own_at e16 (P := fun h => Fld Z h a0 "com/example/vestledger/vestledger/ledger/Suspense" "released" "Lcom/example/vestledger/vestledger/rules/Balance;" (.ref a1)) fc17), (own_at e16 (P := fun h => Fld Z h a0 "com/example/vestledger/vestledger/ledger/Suspense" "held" "Lcom/example/vestledger/vestledger/rules/Balance;" (.ref a2)) fc18)⟩ (by decide) (by decide)
theorem d8_0 : decode prog_86_method_4_code 0 = .ok (.aload_n 0, 1) := by decide +kernel
theorem d8_1 : decode prog_86_method_4_code 1 = .ok (.getfield 7, 3) := by decide +kernel
theorem d8_4 : decode prog_86_method_4_code 4 = .ok (.lconst 0, 1) := by decide +kernel
theorem d8_5 : decode prog_86_method_4_code 5 = .ok (.lcmp, 1) := by decide +kernel
theorem d8_6 : decode prog_86_method_4_code 6 = .ok (.ifCond .ne 16, 3) := by decide +kernel
theorem d8_9 : decode prog_86_method_4_code 9 = .ok (.aload_n 0, 1) := by decide +kernel
theorem d8_10 : decode prog_86_method_4_code 10 = .ok (.getfield 13, 3) := by decide +kernel
theorem d8_13 : decode prog_86_method_4_code 13 = .ok (.lconst 0, 1) := by decide +kernel
theorem d8_14 : decode prog_86_method_4_code 14 = .ok (.lcmp, 1) := by decide +kernel
theorem d8_15 : decode prog_86_method_4_code 15 = .ok (.ifCond .ne 7, 3) := by decide +kernel
theorem d8_18 : decode prog_86_method_4_code 18 = .ok (.iconst 1, 1) := by decide +kernel
theorem d8_19 : decode prog_86_method_4_code 19 = .ok (.goto 4, 3) := by decide +kernel
theorem d8_22 : decode prog_86_method_4_code 22 = .ok (.iconst 0, 1) := by decide +kernel
theorem d8_23 : decode prog_86_method_4_code 23 = .ok (.ireturn, 1) := by decide +kernel
def f8 (w0 : Int64) (w1 : Int64) : Int32 := nar .boolean (if w0 = (0 : Int64) then (if w1 = (0 : Int64) then (1 : Int32) else (0 : Int32)) else (0 : Int32))
theorem ef_8 (m : MethodId) (x0 : Addr) : entryFrame m #[(.ref x0)] 1 = mkF m 0 #[.val (.ref x0)] [] := by first | (simp [entryFrame, mkF, argsToLocals, Value.category]; done) | rfl
def Q8 (Z : State) (a0 : Addr) (w0 : Int64) (w1 : Int64) (h0 : Heap) (n0 : Nat) (v : Option Value) (h : Heap) (L : List Loc) : Prop := v = some (.int (f8 w0 w1)) ∧ Fr n0 L ∧ h = h0
set_option maxRecDepth 65536 in
set_option maxHeartbeats 40000000 in
theorem rm8 (l : Launch) (Z : State) (aZ : Array Value) (hw : ∀ d ∈ tables_1, d.before aZ Z = true) (ws : List Jvm.Cond) (a0 : Addr) (w0 : Int64) (w1 : Int64) (h0 : Heap) (n0 : Nat) (Z0 : n0 ≤ h0.size) (Fc : Fld Z h0 a0 "com/example/vestledger/vestledger/rules/Balance" "cashCents" "J" (.long w0)) (Fs : Fld Z h0 a0 "com/example/vestledger/vestledger/rules/Balance" "shareUnits" "J" (.long w1)) :
    MetFree l (⟨"com/example/vestledger/vestledger/rules/Balance", "isZero", "()Z"⟩ : MethodName) (head1 (Jvm.Cond.code (⟨"com/example/vestledger/vestledger/rules/Balance", "isZero", "()Z"⟩ : MethodName) prog_86_method_4_code 1 (some .boolean) :: ws) ({ frames := 0, cells := 0, slots := 0, locals := 0 } : Room)) (fun a U => a = #[(.ref a0)] ∧ Z.Warmed39 U.vm ∧ U.heap = h0) (fun _ _ _ _ _ => True) (fun _ U o U' => ∃ v L, o = .returned v ∧ Q8 Z a0 w0 w1 h0 n0 v U'.heap L ∧ FrameEnd U o U' L ({ frames := 0, cells := 0, slots := 0, locals := 0 } : Room).cells ({ frames := 0, cells := 0, slots := 0, locals := 0 } : Room).slots) := by
  refine MetFree.of_bodySF (plainFor_of_name pn_com_example_vestledger_vestledger_rules_Balance) hisR ?_
  intro p e s m args below meth c s₁ Bd hml0 hP hK
  obtain ⟨rfl, hZ, hh⟩ := hP
  have hx := Bd.exec
  have hby := Bd.bytes
  have hlk : meth.locks = false := BodyLoose.notSynchronized Bd
  have hml : c.maxLocals = 1 := hml0
  have hown : s.vm.findClass "com/example/vestledger/vestledger/rules/Balance" = some m.cls := findClass_of_methodNamed Bd.named
  have hnm := (name_of_methodNamed Bd.named Bd.method).1
  have X0 : Stand p l e ({ frames := 0, cells := 0, slots := 0, locals := 0 } : Room) s m #[(.ref a0)] below meth c s₁ [] 0 0 := Stand.of_body Bd
  have e0 : s₁.heap = h0 := by rw [← hh, Bd.state]; rfl
  have N0 := Fr.nil n0
  show OEnd p e below s s₁ (entryFrame m #[(.ref a0)] 1) (Q8 Z a0 w0 w1 h0 n0) ({ frames := 0, cells := 0, slots := 0, locals := 0 } : Room).cells ({ frames := 0, cells := 0, slots := 0, locals := 0 } : Room).slots
  refine OEnd.go (g' := (mkF m 0 #[.val (.ref a0)] [])) (fun _ k => castTop (ef_8 m a0) k) ?_
  refine OEnd.go (T' := s₁) (g' := (mkF m 1 #[.val (.ref a0)] [(.ref a0)])) (fun t k => ?_) ?_
  · show Steps p.tables e below (s₁.setTop (mkF m 0 #[.val (.ref a0)] [])) t
    refine XS.aloadN X0.here hx rfl (hb hby d8_0) rfl rfl ?_
    show Steps p.tables e below (s₁.setTop (mkF m 1 #[.val (.ref a0)] [(.ref a0)])) t
    exact k
  obtain ⟨T1, X1, e1, st1⟩ := getF X0 hx hZ hown (host := "") (Or.inl (hw _ (List.mem_of_getElem? (i := 18) rfl))) Via.refl e0 Fc (g := (mkF m 1 #[.val (.ref a0)] [(.ref a0)])) rfl rfl (hb hby d8_1)
  refine OEnd.go (g' := (mkF m 4 #[.val (.ref a0)] [(.long w0)])) st1 ?_
  refine OEnd.go (T' := T1) (g' := (mkF m 6 #[.val (.ref a0)] [(.int (lcmpW w0 (0 : Int64)))])) (fun t k => ?_) ?_
  · show Steps p.tables e below (T1.setTop (mkF m 4 #[.val (.ref a0)] [(.long w0)])) t
    refine XS.lconst X1.here hx rfl (hb hby d8_4) ?_
    show Steps p.tables e below (T1.setTop (mkF m 5 #[.val (.ref a0)] [(.long (0 : Int64)), (.long w0)])) t
    refine XS.lcmp X1.here hx rfl (hb hby d8_5) rfl ?_
    show Steps p.tables e below (T1.setTop (mkF m 6 #[.val (.ref a0)] [(.int (lcmpW w0 (0 : Int64)))])) t
    exact k
  obtain ⟨T3, L3, X3, e3, N3, st3⟩ : ORch p l e ({ frames := 0, cells := 0, slots := 0, locals := 0 } : Room) s m #[(.ref a0)] below meth c n0 T1 (mkF m 6 #[.val (.ref a0)] [(.int (lcmpW w0 (0 : Int64)))]) h0 (mkF m 23 #[.val (.ref a0)] [(.int (if w0 = (0 : Int64) then (if w1 = (0 : Int64) then (1 : Int32) else (0 : Int32)) else (0 : Int32)))]) 0 0 := by
    by_cases hc2 : w0 = (0 : Int64)
    · skip
      refine ORch.go (T' := T1) (g' := (mkF m 9 #[.val (.ref a0)] [])) (fun t k => ?_) ?_
      · show Steps p.tables e below (T1.setTop (mkF m 6 #[.val (.ref a0)] [(.int (lcmpW w0 (0 : Int64)))])) t
        refine XS.ifNo X1.here hx rfl (hb hby d8_6) rfl ((if0 _ _).trans (teq ((lw_eq w0 (0 : Int64)).mpr hc2)).2) ?_
        show Steps p.tables e below (T1.setTop (mkF m 9 #[.val (.ref a0)] [])) t
        exact k
      refine ORch.go (T' := T1) (g' := (mkF m 10 #[.val (.ref a0)] [(.ref a0)])) (fun t k => ?_) ?_
      · show Steps p.tables e below (T1.setTop (mkF m 9 #[.val (.ref a0)] [])) t
        refine XS.aloadN X1.here hx rfl (hb hby d8_9) rfl rfl ?_
        show Steps p.tables e below (T1.setTop (mkF m 10 #[.val (.ref a0)] [(.ref a0)])) t
        exact k
      obtain ⟨T4, X4, e4, st4⟩ := getF X1 hx hZ hown (host := "") (Or.inl (hw _ (List.mem_of_getElem? (i := 20) rfl))) Via.refl e1 Fs (g := (mkF m 10 #[.val (.ref a0)] [(.ref a0)])) rfl rfl (hb hby d8_10)
      refine ORch.go (g' := (mkF m 13 #[.val (.ref a0)] [(.long w1)])) st4 ?_
      refine ORch.go (T' := T4) (g' := (mkF m 15 #[.val (.ref a0)] [(.int (lcmpW w1 (0 : Int64)))])) (fun t k => ?_) ?_
      · show Steps p.tables e below (T4.setTop (mkF m 13 #[.val (.ref a0)] [(.long w1)])) t
        refine XS.lconst X4.here hx rfl (hb hby d8_13) ?_
        show Steps p.tables e below (T4.setTop (mkF m 14 #[.val (.ref a0)] [(.long (0 : Int64)), (.long w1)])) t
        refine XS.lcmp X4.here hx rfl (hb hby d8_14) rfl ?_
        show Steps p.tables e below (T4.setTop (mkF m 15 #[.val (.ref a0)] [(.int (lcmpW w1 (0 : Int64)))])) t
        exact k
      by_cases hc5 : w1 = (0 : Int64)
      · skip
        refine ORch.go (T' := T4) (g' := (mkF m 18 #[.val (.ref a0)] [])) (fun t k => ?_) ?_
        · show Steps p.tables e below (T4.setTop (mkF m 15 #[.val (.ref a0)] [(.int (lcmpW w1 (0 : Int64)))])) t
          refine XS.ifNo X4.here hx rfl (hb hby d8_15) rfl ((if0 _ _).trans (teq ((lw_eq w1 (0 : Int64)).mpr hc5)).2) ?_
          show Steps p.tables e below (T4.setTop (mkF m 18 #[.val (.ref a0)] [])) t
          exact k
        refine ORch.go (T' := T4) (g' := (mkF m 23 #[.val (.ref a0)] [(.int (1 : Int32))])) (fun t k => ?_) ?_
        · show Steps p.tables e below (T4.setTop (mkF m 18 #[.val (.ref a0)] [])) t
          refine XS.iconst X4.here hx rfl (hb hby d8_18) ?_
          show Steps p.tables e below (T4.setTop (mkF m 19 #[.val (.ref a0)] [(.int (1 : Int32))])) t
          refine XS.goto X4.here hx rfl (pc0 := 19) (pc' := 23) rfl (hb hby d8_19) (by decide) (by decide) ?_
          show Steps p.tables e below (T4.setTop (mkF m 23 #[.val (.ref a0)] [(.int (1 : Int32))])) t
          exact k
        exact ⟨_, _, X4, e4, N0, fun t k => (own_k (f := fun (z : Int32) => mkF m 23 #[.val (.ref a0)] [(.int z)]) ((if_pos hc2).trans (if_pos hc5)) k)⟩
      · skip
        refine ORch.go (T' := T4) (g' := (mkF m 22 #[.val (.ref a0)] [])) (fun t k => ?_) ?_
        · show Steps p.tables e below (T4.setTop (mkF m 15 #[.val (.ref a0)] [(.int (lcmpW w1 (0 : Int64)))])) t
          refine XS.ifYes X4.here hx rfl (pc0 := 15) (pc' := 22) rfl (hb hby d8_15) rfl ((if0 _ _).trans (feq ((fun q => hc5 ((lw_eq w1 (0 : Int64)).mp q)))).2) (by decide) (by decide) ?_
          show Steps p.tables e below (T4.setTop (mkF m 22 #[.val (.ref a0)] [])) t
          exact k
        refine ORch.go (T' := T4) (g' := (mkF m 23 #[.val (.ref a0)] [(.int (0 : Int32))])) (fun t k => ?_) ?_
        · show Steps p.tables e below (T4.setTop (mkF m 22 #[.val (.ref a0)] [])) t
          refine XS.iconst X4.here hx rfl (hb hby d8_22) ?_
          show Steps p.tables e below (T4.setTop (mkF m 23 #[.val (.ref a0)] [(.int (0 : Int32))])) t
          exact k
        exact ⟨_, _, X4, e4, N0, fun t k => (own_k (f := fun (z : Int32) => mkF m 23 #[.val (.ref a0)] [(.int z)]) ((if_pos hc2).trans (if_neg hc5)) k)⟩
    · skip
      refine ORch.go (T' := T1) (g' := (mkF m 22 #[.val (.ref a0)] [])) (fun t k => ?_) ?_
      · show Steps p.tables e below (T1.setTop (mkF m 6 #[.val (.ref a0)] [(.int (lcmpW w0 (0 : Int64)))])) t
        refine XS.ifYes X1.here hx rfl (pc0 := 6) (pc' := 22) rfl (hb hby d8_6) rfl ((if0 _ _).trans (feq ((fun q => hc2 ((lw_eq w0 (0 : Int64)).mp q)))).2) (by decide) (by decide) ?_
        show Steps p.tables e below (T1.setTop (mkF m 22 #[.val (.ref a0)] [])) t
        exact k
      refine ORch.go (T' := T1) (g' := (mkF m 23 #[.val (.ref a0)] [(.int (0 : Int32))])) (fun t k => ?_) ?_
      · show Steps p.tables e below (T1.setTop (mkF m 22 #[.val (.ref a0)] [])) t
        refine XS.iconst X1.here hx rfl (hb hby d8_22) ?_
        show Steps p.tables e below (T1.setTop (mkF m 23 #[.val (.ref a0)] [(.int (0 : Int32))])) t
        exact k
      exact ⟨_, _, X1, e1, N0, fun t k => (own_k (f := fun (z : Int32) => mkF m 23 #[.val (.ref a0)] [(.int z)]) (if_neg hc2) k)⟩
  refine OEnd.go (g' := (mkF m 23 #[.val (.ref a0)] [(.int (if w0 = (0 : Int64) then (if w1 = (0 : Int64) then (1 : Int32) else (0 : Int32)) else (0 : Int32)))])) st3 ?_
  exact OEnd.nar X3 hx (t := .boolean) Bd.returns (by simp) hlk (hb hby d8_23) ⟨rfl, N3, e3⟩ (by decide) (by decide)
theorem d7_0 : decode prog_69_method_2_code 0 = .ok (.aload_n 0, 1) := by decide +kernel
theorem d7_1 : decode prog_69_method_2_code 1 = .ok (.getfield 17, 3) := by decide +kernel
theorem d7_4 : decode prog_69_method_2_code 4 = .ok (.invokevirtual 24, 3) := by decide +kernel
theorem pd___Z : parseMethodDescriptor "()Z" = some ⟨[], some .boolean⟩ := by decide +kernel
theorem d7_7 : decode prog_69_method_2_code 7 = .ok (.ifCond .eq 17, 3) := by decide +kernel
theorem d7_24 : decode prog_69_method_2_code 24 = .ok (.iconst 0, 1) := by decide +kernel
theorem d7_10 : decode prog_69_method_2_code 10 = .ok (.aload_n 0, 1) := by decide +kernel
theorem d7_11 : decode prog_69_method_2_code 11 = .ok (.getfield 22, 3) := by decide +kernel
theorem d7_14 : decode prog_69_method_2_code 14 = .ok (.invokevirtual 24, 3) := by decide +kernel
theorem d7_17 : decode prog_69_method_2_code 17 = .ok (.ifCond .eq 7, 3) := by decide +kernel
theorem d7_20 : decode prog_69_method_2_code 20 = .ok (.iconst 1, 1) := by decide +kernel
theorem d7_21 : decode prog_69_method_2_code 21 = .ok (.goto 4, 3) := by decide +kernel
theorem d7_25 : decode prog_69_method_2_code 25 = .ok (.ireturn, 1) := by decide +kernel
def f7 (w0 : Int64) (w1 : Int64) (w2 : Int64) (w3 : Int64) : Int32 := nar .boolean (if (f8 w0 w1) = (0 : Int32) then (0 : Int32) else (if (f8 w2 w3) = (0 : Int32) then (0 : Int32) else (1 : Int32)))
theorem ef_7 (m : MethodId) (x0 : Addr) : entryFrame m #[(.ref x0)] 1 = mkF m 0 #[.val (.ref x0)] [] := by first | (simp [entryFrame, mkF, argsToLocals, Value.category]; done) | rfl
def Q7 (Z : State) (a0 : Addr) (x1 : Addr) (x2 : Addr) (w0 : Int64) (w1 : Int64) (w2 : Int64) (w3 : Int64) (h0 : Heap) (n0 : Nat) (v : Option Value) (h : Heap) (L : List Loc) : Prop := v = some (.int (f7 w0 w1 w2 w3)) ∧ Fr n0 L ∧ h = h0
set_option maxRecDepth 65536 in
set_option maxHeartbeats 40000000 in
theorem rm7 (l : Launch) (Z : State) (aZ : Array Value) (hw : ∀ d ∈ tables_1, d.before aZ Z = true) (ws : List Jvm.Cond) (a0 : Addr) (x1 : Addr) (x2 : Addr) (w0 : Int64) (w1 : Int64) (w2 : Int64) (w3 : Int64) (h0 : Heap) (n0 : Nat) (Z0 : n0 ≤ h0.size) (Fre : Fld Z h0 a0 "com/example/vestledger/vestledger/ledger/Suspense" "released" "Lcom/example/vestledger/vestledger/rules/Balance;" (.ref x1)) (Fhe : Fld Z h0 a0 "com/example/vestledger/vestledger/ledger/Suspense" "held" "Lcom/example/vestledger/vestledger/rules/Balance;" (.ref x2)) (E1 : Exa Z h0 x1 "com/example/vestledger/vestledger/rules/Balance") (E2 : Exa Z h0 x2 "com/example/vestledger/vestledger/rules/Balance") (F0 : Fld Z h0 x1 "com/example/vestledger/vestledger/rules/Balance" "cashCents" "J" (.long w0)) (F1 : Fld Z h0 x1 "com/example/vestledger/vestledger/rules/Balance" "shareUnits" "J" (.long w1)) (F2 : Fld Z h0 x2 "com/example/vestledger/vestledger/rules/Balance" "cashCents" "J" (.long w2)) (F3 : Fld Z h0 x2 "com/example/vestledger/vestledger/rules/Balance" "shareUnits" "J" (.long w3)) :
    MetFree l (⟨"com/example/vestledger/vestledger/ledger/Suspense", "isEmpty", "()Z"⟩ : MethodName) (head1 (Jvm.Cond.code (⟨"com/example/vestledger/vestledger/ledger/Suspense", "isEmpty", "()Z"⟩ : MethodName) prog_69_method_2_code 1 (some .boolean) :: ws) ({ frames := 1, cells := 0, slots := 0, locals := 12 } : Room)) (fun a U => a = #[(.ref a0)] ∧ Z.Warmed39 U.vm ∧ U.heap = h0) (fun _ _ _ _ _ => True) (fun _ U o U' => ∃ v L, o = .returned v ∧ Q7 Z a0 x1 x2 w0 w1 w2 w3 h0 n0 v U'.heap L ∧ FrameEnd U o U' L ({ frames := 1, cells := 0, slots := 0, locals := 12 } : Room).cells ({ frames := 1, cells := 0, slots := 0, locals := 12 } : Room).slots) := by
  refine MetFree.of_bodySF (plainFor_of_name pn_com_example_vestledger_vestledger_ledger_Suspense) hisR ?_
  intro p e s m args below meth c s₁ Bd hml0 hP hK
  obtain ⟨rfl, hZ, hh⟩ := hP
  have hx := Bd.exec
  have hby := Bd.bytes
  have hlk : meth.locks = false := BodyLoose.notSynchronized Bd
  have hml : c.maxLocals = 1 := hml0
  have hown : s.vm.findClass "com/example/vestledger/vestledger/ledger/Suspense" = some m.cls := findClass_of_methodNamed Bd.named
  have hnm := (name_of_methodNamed Bd.named Bd.method).1
  have X0 : Stand p l e ({ frames := 1, cells := 0, slots := 0, locals := 12 } : Room) s m #[(.ref a0)] below meth c s₁ [] 0 0 := Stand.of_body Bd
  have e0 : s₁.heap = h0 := by rw [← hh, Bd.state]; rfl
  have N0 := Fr.nil n0
  show OEnd p e below s s₁ (entryFrame m #[(.ref a0)] 1) (Q7 Z a0 x1 x2 w0 w1 w2 w3 h0 n0) ({ frames := 1, cells := 0, slots := 0, locals := 12 } : Room).cells ({ frames := 1, cells := 0, slots := 0, locals := 12 } : Room).slots
  refine OEnd.go (g' := (mkF m 0 #[.val (.ref a0)] [])) (fun _ k => castTop (ef_7 m a0) k) ?_
  refine OEnd.go (T' := s₁) (g' := (mkF m 1 #[.val (.ref a0)] [(.ref a0)])) (fun t k => ?_) ?_
  · show Steps p.tables e below (s₁.setTop (mkF m 0 #[.val (.ref a0)] [])) t
    refine XS.aloadN X0.here hx rfl (hb hby d7_0) rfl rfl ?_
    show Steps p.tables e below (s₁.setTop (mkF m 1 #[.val (.ref a0)] [(.ref a0)])) t
    exact k
  obtain ⟨T1, X1, e1, st1⟩ := getF X0 hx hZ hown (host := "") (Or.inl (hw _ (List.mem_of_getElem? (i := 42) rfl))) Via.refl e0 Fre (g := (mkF m 1 #[.val (.ref a0)] [(.ref a0)])) rfl rfl (hb hby d7_1)
  refine OEnd.go (g' := (mkF m 4 #[.val (.ref a0)] [(.ref x1)])) st1 ?_
  obtain ⟨cq2, kq2, q2a, q2b, q2c⟩ := isOf hZ e1 E1
  obtain ⟨_, _, ⟨T2, L2, k2, n2⟩, -, X2, ⟨Lc2, hQ2, l2, y2, z2⟩, st2⟩ := X1.virtualBack hx (y := (⟨"com/example/vestledger/vestledger/rules/Balance", "isZero", "()Z"⟩ : MethodName)) (z := (⟨"com/example/vestledger/vestledger/rules/Balance", "isZero", "()Z"⟩ : MethodName)) hown (mvT hZ (hw _ (List.mem_of_getElem? (i := 51) rfl))) (mvT hZ (hw _ (List.mem_of_getElem? (i := 52) rfl))) (notFace_of_selects (args := #[]) (mvT hZ (hw _ (List.mem_of_getElem? (i := 54) rfl)))) (mvT hZ (hw _ (List.mem_of_getElem? (i := 54) rfl))) (mvT hZ (hw _ (List.mem_of_getElem? (i := 53) rfl))) (by decide) (backOf (W := 0) (rm8 l Z aZ hw [] x1 w0 w1 h0 n0 Z0 F0 F1) hZ (hw _ (List.mem_of_getElem? (i := 55) rfl)) (hw _ (List.mem_of_getElem? (i := 6) rfl)) (by decide) (by decide)) q2a q2c (g := (mkF m 4 #[.val (.ref a0)] [(.ref x1)])) rfl (by rw [hml]; rfl) (Steps.refl _) (argsL := []) (rest := []) (lenOf pd___Z rfl) rfl (by show 2 * 0 + _ ≤ _; exact Nat.le_of_eq rfl) (hb hby d7_4) (fun _ _ => ⟨rfl, e1, (by decide : 0 + 0 ≤ _), (by decide : 0 + 0 ≤ _)⟩)
  dsimp only [Pt.U, Pt.locs, Pt.cells, Pt.slots] at X2 l2 y2 z2 st2 hQ2
  subst l2 y2 z2
  obtain ⟨rfl, N2q, e2⟩ := hQ2
  have N2 := Fr.app N0 N2q
  refine OEnd.go (g' := (mkF m 7 #[.val (.ref a0)] [(.int (f8 w0 w1))])) (fun _ k => st2.trans k) ?_
  obtain ⟨T4, L4, X4, e4, N4, st4⟩ : ORch p l e ({ frames := 1, cells := 0, slots := 0, locals := 12 } : Room) s m #[(.ref a0)] below meth c n0 T2 (mkF m 7 #[.val (.ref a0)] [(.int (f8 w0 w1))]) h0 (mkF m 25 #[.val (.ref a0)] [(.int (if (f8 w0 w1) = (0 : Int32) then (0 : Int32) else (if (f8 w2 w3) = (0 : Int32) then (0 : Int32) else (1 : Int32))))]) 0 0 := by
    by_cases hc3 : (f8 w0 w1) = (0 : Int32)
    · skip
      refine ORch.go (T' := T2) (g' := (mkF m 24 #[.val (.ref a0)] [])) (fun t k => ?_) ?_
      · show Steps p.tables e below (T2.setTop (mkF m 7 #[.val (.ref a0)] [(.int (f8 w0 w1))])) t
        refine XS.ifYes X2.here hx rfl (pc0 := 7) (pc' := 24) rfl (hb hby d7_7) rfl ((if0 _ _).trans (teq (hc3)).1) (by decide) (by decide) ?_
        show Steps p.tables e below (T2.setTop (mkF m 24 #[.val (.ref a0)] [])) t
        exact k
      refine ORch.go (T' := T2) (g' := (mkF m 25 #[.val (.ref a0)] [(.int (0 : Int32))])) (fun t k => ?_) ?_
      · show Steps p.tables e below (T2.setTop (mkF m 24 #[.val (.ref a0)] [])) t
        refine XS.iconst X2.here hx rfl (hb hby d7_24) ?_
        show Steps p.tables e below (T2.setTop (mkF m 25 #[.val (.ref a0)] [(.int (0 : Int32))])) t
        exact k
      exact ⟨_, _, X2, e2, N2, fun t k => (own_k (f := fun (z : Int32) => mkF m 25 #[.val (.ref a0)] [(.int z)]) (if_pos hc3) k)⟩
    · skip
      refine ORch.go (T' := T2) (g' := (mkF m 10 #[.val (.ref a0)] [])) (fun t k => ?_) ?_
      · show Steps p.tables e below (T2.setTop (mkF m 7 #[.val (.ref a0)] [(.int (f8 w0 w1))])) t
        refine XS.ifNo X2.here hx rfl (hb hby d7_7) rfl ((if0 _ _).trans (feq (hc3)).1) ?_
        show Steps p.tables e below (T2.setTop (mkF m 10 #[.val (.ref a0)] [])) t
        exact k
      refine ORch.go (T' := T2) (g' := (mkF m 11 #[.val (.ref a0)] [(.ref a0)])) (fun t k => ?_) ?_
      · show Steps p.tables e below (T2.setTop (mkF m 10 #[.val (.ref a0)] [])) t
        refine XS.aloadN X2.here hx rfl (hb hby d7_10) rfl rfl ?_
        show Steps p.tables e below (T2.setTop (mkF m 11 #[.val (.ref a0)] [(.ref a0)])) t
        exact k
      obtain ⟨T5, X5, e5, st5⟩ := getF X2 hx hZ hown (host := "") (Or.inl (hw _ (List.mem_of_getElem? (i := 44) rfl))) Via.refl e2 Fhe (g := (mkF m 11 #[.val (.ref a0)] [(.ref a0)])) rfl rfl (hb hby d7_11)
      refine ORch.go (g' := (mkF m 14 #[.val (.ref a0)] [(.ref x2)])) st5 ?_
      obtain ⟨cq6, kq6, q6a, q6b, q6c⟩ := isOf hZ e5 E2
      obtain ⟨_, _, ⟨T6, L6, k6, n6⟩, -, X6, ⟨Lc6, hQ6, l6, y6, z6⟩, st6⟩ := X5.virtualBack hx (y := (⟨"com/example/vestledger/vestledger/rules/Balance", "isZero", "()Z"⟩ : MethodName)) (z := (⟨"com/example/vestledger/vestledger/rules/Balance", "isZero", "()Z"⟩ : MethodName)) hown (mvT hZ (hw _ (List.mem_of_getElem? (i := 51) rfl))) (mvT hZ (hw _ (List.mem_of_getElem? (i := 52) rfl))) (notFace_of_selects (args := #[]) (mvT hZ (hw _ (List.mem_of_getElem? (i := 54) rfl)))) (mvT hZ (hw _ (List.mem_of_getElem? (i := 54) rfl))) (mvT hZ (hw _ (List.mem_of_getElem? (i := 53) rfl))) (by decide) (backOf (W := 0) (rm8 l Z aZ hw [] x2 w2 w3 h0 n0 Z0 F2 F3) hZ (hw _ (List.mem_of_getElem? (i := 55) rfl)) (hw _ (List.mem_of_getElem? (i := 6) rfl)) (by decide) (by decide)) q6a q6c (g := (mkF m 14 #[.val (.ref a0)] [(.ref x2)])) rfl (by rw [hml]; rfl) (Steps.refl _) (argsL := []) (rest := []) (lenOf pd___Z rfl) rfl (by show 2 * 0 + _ ≤ _; exact Nat.le_of_eq rfl) (hb hby d7_14) (fun _ _ => ⟨rfl, e5, (by decide : 0 + 0 ≤ _), (by decide : 0 + 0 ≤ _)⟩)
      dsimp only [Pt.U, Pt.locs, Pt.cells, Pt.slots] at X6 l6 y6 z6 st6 hQ6
      subst l6 y6 z6
      obtain ⟨rfl, N6q, e6⟩ := hQ6
      have N6 := Fr.app N2 N6q
      refine ORch.go (g' := (mkF m 17 #[.val (.ref a0)] [(.int (f8 w2 w3))])) (fun _ k => st6.trans k) ?_
      by_cases hc7 : (f8 w2 w3) = (0 : Int32)
      · skip
        refine ORch.go (T' := T6) (g' := (mkF m 24 #[.val (.ref a0)] [])) (fun t k => ?_) ?_
        · show Steps p.tables e below (T6.setTop (mkF m 17 #[.val (.ref a0)] [(.int (f8 w2 w3))])) t
          refine XS.ifYes X6.here hx rfl (pc0 := 17) (pc' := 24) rfl (hb hby d7_17) rfl ((if0 _ _).trans (teq (hc7)).1) (by decide) (by decide) ?_
          show Steps p.tables e below (T6.setTop (mkF m 24 #[.val (.ref a0)] [])) t
          exact k
        refine ORch.go (T' := T6) (g' := (mkF m 25 #[.val (.ref a0)] [(.int (0 : Int32))])) (fun t k => ?_) ?_
        · show Steps p.tables e below (T6.setTop (mkF m 24 #[.val (.ref a0)] [])) t
          refine XS.iconst X6.here hx rfl (hb hby d7_24) ?_
          show Steps p.tables e below (T6.setTop (mkF m 25 #[.val (.ref a0)] [(.int (0 : Int32))])) t
          exact k
        exact ⟨_, _, X6, e6, N6, fun t k => (own_k (f := fun (z : Int32) => mkF m 25 #[.val (.ref a0)] [(.int z)]) ((if_neg hc3).trans (if_pos hc7)) k)⟩
      · skip
        refine ORch.go (T' := T6) (g' := (mkF m 20 #[.val (.ref a0)] [])) (fun t k => ?_) ?_
        · show Steps p.tables e below (T6.setTop (mkF m 17 #[.val (.ref a0)] [(.int (f8 w2 w3))])) t
          refine XS.ifNo X6.here hx rfl (hb hby d7_17) rfl ((if0 _ _).trans (feq (hc7)).1) ?_
          show Steps p.tables e below (T6.setTop (mkF m 20 #[.val (.ref a0)] [])) t
          exact k
        refine ORch.go (T' := T6) (g' := (mkF m 25 #[.val (.ref a0)] [(.int (1 : Int32))])) (fun t k => ?_) ?_
        · show Steps p.tables e below (T6.setTop (mkF m 20 #[.val (.ref a0)] [])) t
          refine XS.iconst X6.here hx rfl (hb hby d7_20) ?_
          show Steps p.tables e below (T6.setTop (mkF m 21 #[.val (.ref a0)] [(.int (1 : Int32))])) t
          refine XS.goto X6.here hx rfl (pc0 := 21) (pc' := 25) rfl (hb hby d7_21) (by decide) (by decide) ?_
          show Steps p.tables e below (T6.setTop (mkF m 25 #[.val (.ref a0)] [(.int (1 : Int32))])) t
          exact k
        exact ⟨_, _, X6, e6, N6, fun t k => (own_k (f := fun (z : Int32) => mkF m 25 #[.val (.ref a0)] [(.int z)]) ((if_neg hc3).trans (if_neg hc7)) k)⟩
  refine OEnd.go (g' := (mkF m 25 #[.val (.ref a0)] [(.int (if (f8 w0 w1) = (0 : Int32) then (0 : Int32) else (if (f8 w2 w3) = (0 : Int32) then (0 : Int32) else (1 : Int32))))])) st4 ?_
  exact OEnd.nar X4 hx (t := .boolean) Bd.returns (by simp) hlk (hb hby d7_25) ⟨rfl, N4, e4⟩ (by decide) (by decide)
theorem pd__IIJ_J : parseMethodDescriptor "(IIJ)J" = some ⟨[.int, .int, .long], some .long⟩ := by decide +kernel
theorem pd__JJ_V : parseMethodDescriptor "(JJ)V" = some ⟨[.long, .long], none⟩ := by decide +kernel
theorem pd__Lcom_example_vestledger_vestledger_rules_Balance_Lcom_example_vestledger_vestledger_rules_Balance__V : parseMethodDescriptor "(Lcom/example/vestledger/vestledger/rules/Balance;Lcom/example/vestledger/vestledger/rules/Balance;)V" = some ⟨[(.object "com/example/vestledger/vestledger/rules/Balance"), (.object "com/example/vestledger/vestledger/rules/Balance")], none⟩ := by decide +kernel
def v0_110 (q0 : Int64) (q1 : Int64) (q2 : Int64) (q3 : Int64) (p4 : Int32) : Int32 := (if (f1 p4 (0 : Int32) q0) = (0 : Int64) then (if (f1 p4 (1 : Int32) q1) = (0 : Int64) then (if (f1 p4 (2 : Int32) q2) = (0 : Int64) then (if (f1 p4 (3 : Int32) q3) = (0 : Int64) then (1 : Int32) else (0 : Int32)) else (0 : Int32)) else (0 : Int32)) else (0 : Int32))
def la0_0 (q0 : Int64) (q1 : Int64) (q2 : Int64) (q3 : Int64) (p4 : Int32) : Array Slot := #[.val (.long q0), .second, .val (.long q1), .second, .val (.long q2), .second, .val (.long q3), .second, .val (.int p4), .unset, .unset, .unset, .unset, .unset, .unset, .unset, .unset, .unset, .unset, .unset, .unset]
def la0_1 (q0 : Int64) (q1 : Int64) (q2 : Int64) (q3 : Int64) (p4 : Int32) : Array Slot := #[.val (.long q0), .second, .val (.long q1), .second, .val (.long q2), .second, .val (.long q3), .second, .val (.int p4), .val (.long (f1 p4 (0 : Int32) q0)), .second, .unset, .unset, .unset, .unset, .unset, .unset, .unset, .unset, .unset, .unset]
def la0_2 (q0 : Int64) (q1 : Int64) (q2 : Int64) (q3 : Int64) (p4 : Int32) : Array Slot := #[.val (.long q0), .second, .val (.long q1), .second, .val (.long q2), .second, .val (.long q3), .second, .val (.int p4), .val (.long (f1 p4 (0 : Int32) q0)), .second, .val (.long (f1 p4 (1 : Int32) q1)), .second, .unset, .unset, .unset, .unset, .unset, .unset, .unset, .unset]
def la0_3 (q0 : Int64) (q1 : Int64) (q2 : Int64) (q3 : Int64) (p4 : Int32) : Array Slot := #[.val (.long q0), .second, .val (.long q1), .second, .val (.long q2), .second, .val (.long q3), .second, .val (.int p4), .val (.long (f1 p4 (0 : Int32) q0)), .second, .val (.long (f1 p4 (1 : Int32) q1)), .second, .val (.long (f1 p4 (2 : Int32) q2)), .second, .unset, .unset, .unset, .unset, .unset, .unset]
def la0_4 (q0 : Int64) (q1 : Int64) (q2 : Int64) (q3 : Int64) (p4 : Int32) : Array Slot := #[.val (.long q0), .second, .val (.long q1), .second, .val (.long q2), .second, .val (.long q3), .second, .val (.int p4), .val (.long (f1 p4 (0 : Int32) q0)), .second, .val (.long (f1 p4 (1 : Int32) q1)), .second, .val (.long (f1 p4 (2 : Int32) q2)), .second, .val (.long (f1 p4 (3 : Int32) q3)), .second, .unset, .unset, .unset, .unset]
def la0_5 (q0 : Int64) (q1 : Int64) (q2 : Int64) (q3 : Int64) (p4 : Int32) (b0_38 : Addr) : Array Slot := #[.val (.long q0), .second, .val (.long q1), .second, .val (.long q2), .second, .val (.long q3), .second, .val (.int p4), .val (.long (f1 p4 (0 : Int32) q0)), .second, .val (.long (f1 p4 (1 : Int32) q1)), .second, .val (.long (f1 p4 (2 : Int32) q2)), .second, .val (.long (f1 p4 (3 : Int32) q3)), .second, .val (.ref b0_38), .unset, .unset, .unset]
def la0_6 (q0 : Int64) (q1 : Int64) (q2 : Int64) (q3 : Int64) (p4 : Int32) (b0_38 : Addr) (b0_51 : Addr) : Array Slot := #[.val (.long q0), .second, .val (.long q1), .second, .val (.long q2), .second, .val (.long q3), .second, .val (.int p4), .val (.long (f1 p4 (0 : Int32) q0)), .second, .val (.long (f1 p4 (1 : Int32) q1)), .second, .val (.long (f1 p4 (2 : Int32) q2)), .second, .val (.long (f1 p4 (3 : Int32) q3)), .second, .val (.ref b0_38), .val (.ref b0_51), .unset, .unset]
def la0_7 (q0 : Int64) (q1 : Int64) (q2 : Int64) (q3 : Int64) (p4 : Int32) (b0_38 : Addr) (b0_51 : Addr) (b0_64 : Addr) : Array Slot := #[.val (.long q0), .second, .val (.long q1), .second, .val (.long q2), .second, .val (.long q3), .second, .val (.int p4), .val (.long (f1 p4 (0 : Int32) q0)), .second, .val (.long (f1 p4 (1 : Int32) q1)), .second, .val (.long (f1 p4 (2 : Int32) q2)), .second, .val (.long (f1 p4 (3 : Int32) q3)), .second, .val (.ref b0_38), .val (.ref b0_51), .val (.ref b0_64), .unset]
def la0_8 (q0 : Int64) (q1 : Int64) (q2 : Int64) (q3 : Int64) (p4 : Int32) (b0_38 : Addr) (b0_51 : Addr) (b0_64 : Addr) : Array Slot := #[.val (.long q0), .second, .val (.long q1), .second, .val (.long q2), .second, .val (.long q3), .second, .val (.int p4), .val (.long (f1 p4 (0 : Int32) q0)), .second, .val (.long (f1 p4 (1 : Int32) q1)), .second, .val (.long (f1 p4 (2 : Int32) q2)), .second, .val (.long (f1 p4 (3 : Int32) q3)), .second, .val (.ref b0_38), .val (.ref b0_51), .val (.ref b0_64), .val (.int (v0_110 q0 q1 q2 q3 p4))]
def f0 (q0 : Int64) (q1 : Int64) (q2 : Int64) (q3 : Int64) (p4 : Int32) : Int32 := (if (f7 (f1 p4 (0 : Int32) q0) (f1 p4 (1 : Int32) q1) (f1 p4 (2 : Int32) q2) (f1 p4 (3 : Int32) q3)) = (v0_110 q0 q1 q2 q3 p4) then (1 : Int32) else (0 : Int32))
theorem own_rem (x y : Int32) (d : Int) (hy : y.toInt = d) : (0 ≤ x.toInt → (x - (x / y) * y).toInt = x.toInt % d) ∧ (x.toInt < 0 → (x - (x / y) * y).toInt = -((-x.toInt) % d)) := by
  rw [rem_toInt, hy]
  exact tr _ _
theorem own_n0 : nar .boolean (0 : Int32) = 0 := by decide
theorem own_n1 : nar .boolean (1 : Int32) = 1 := by decide
theorem own_lt (x y : Int32) : x < y ↔ x.toInt < y.toInt := Int32.lt_iff_toInt_lt
theorem own_eq (x y : Int32) : x = y ↔ x.toInt = y.toInt := Int32.toInt_inj.symm
theorem own_four (x : Int32) : (x &&& (3 : Int32)) = 0 ∨ (x &&& (3 : Int32)) = 1 ∨ (x &&& (3 : Int32)) = 2 ∨ (x &&& (3 : Int32)) = 3 := by
  have h := c_mask x 3 2 (by decide) (by decide)
  have e0 : (0 : Int32).toInt = 0 := by decide
  have e1 : (1 : Int32).toInt = 1 := by decide
  have e2 : (2 : Int32).toInt = 2 := by decide
  have e3 : (3 : Int32).toInt = 3 := by decide
  simp only [own_eq, e0, e1, e2, e3, h]
  omega
theorem own_key (x y z w : Int64) : f7 x y z w = (if x = (0 : Int64) then (if y = (0 : Int64) then (if z = (0 : Int64) then (if w = (0 : Int64) then (1 : Int32) else (0 : Int32)) else (0 : Int32)) else (0 : Int32)) else (0 : Int32)) := by
  have n10 : ¬ ((1 : Int32) = 0) := by decide
  unfold f7 f8
  by_cases h1 : x = 0
  · by_cases h2 : y = 0
    · by_cases h3 : z = 0
      · by_cases h4 : w = 0
        · simp only [h1, h2, h3, h4, if_true, own_n1, n10, if_false]
        · simp only [h1, h2, h3, h4, if_true, own_n1, own_n0, n10, if_false]
      · simp only [h1, h2, h3, if_true, own_n1, own_n0, n10, if_false]
    · simp only [h1, h2, if_true, own_n0, if_false]
  · simp only [h1, if_true, own_n0, if_false]
theorem own_plain (a b c d : Int64) (e : Int32) : f0 a b c d e = 1 := by
  unfold f0
  rw [if_pos]
  exact own_key _ _ _ _
theorem ef_0 (m : MethodId) (x0 : Int64) (x1 : Int64) (x2 : Int64) (x3 : Int64) (x4 : Int32) : entryFrame m #[(.long x0), (.long x1), (.long x2), (.long x3), (.int x4)] maxLocals = mkF m 0 #[.val (.long x0), .second, .val (.long x1), .second, .val (.long x2), .second, .val (.long x3), .second, .val (.int x4), .unset, .unset, .unset, .unset, .unset, .unset, .unset, .unset, .unset, .unset, .unset, .unset] [] := by first | (simp [entryFrame, mkF, argsToLocals, Value.category, maxLocals]; done) | rfl
def Q0 (Z : State) (q0 : Int64) (q1 : Int64) (q2 : Int64) (q3 : Int64) (p4 : Int32) (h0 : Heap) (n0 : Nat) (v : Option Value) (h : Heap) (L : List Loc) : Prop := v = some (.int 1) ∧ Fr n0 L
set_option maxRecDepth 65536 in
set_option maxHeartbeats 40000000 in
theorem rm0 (l : Launch) (Z : State) (aZ : Array Value) (hw : ∀ d ∈ tables_1, d.before aZ Z = true) (ws : List Jvm.Cond) (q0 : Int64) (q1 : Int64) (q2 : Int64) (q3 : Int64) (p4 : Int32) (h0 : Heap) (n0 : Nat) (Z0 : n0 ≤ h0.size) :
    MetFree l x (head1 (Jvm.Cond.code x code maxLocals ret :: ws) room_1) (fun a U => a = #[(.long q0), (.long q1), (.long q2), (.long q3), (.int p4)] ∧ Z.Warmed39 U.vm ∧ U.heap = h0) (fun _ _ _ _ _ => True) (fun _ U o U' => ∃ v L, o = .returned v ∧ Q0 Z q0 q1 q2 q3 p4 h0 n0 v U'.heap L ∧ ReturnedEndW U o U' L room_1.cells room_1.slots) := by
  refine MetFree.of_bodySF (plainFor_of_name pn_com_example_vestledger_vestledger_ledger_SuspenseIsEmptyPinLaw) hisR ?_
  intro p e s m args below meth c s₁ Bd hml0 hP hK
  obtain ⟨rfl, hZ, hh⟩ := hP
  have hx := Bd.exec
  have hby := Bd.bytes
  have hlk : meth.locks = false := BodyLoose.notSynchronized Bd
  have hml : c.maxLocals = 21 := hml0
  have hown : s.vm.findClass "com/example/vestledger/vestledger/ledger/SuspenseIsEmptyPinLaw" = some m.cls := findClass_of_methodNamed Bd.named
  have hnm := (name_of_methodNamed Bd.named Bd.method).1
  have X0 : Stand p l e room_1 s m #[(.long q0), (.long q1), (.long q2), (.long q3), (.int p4)] below meth c s₁ [] 0 0 := Stand.of_body Bd
  have e0 : s₁.heap = h0 := by rw [← hh, Bd.state]; rfl
  have N0 := Fr.nil n0
  show OEndW p e below s s₁ (entryFrame m #[(.long q0), (.long q1), (.long q2), (.long q3), (.int p4)] maxLocals) (Q0 Z q0 q1 q2 q3 p4 h0 n0) room_1.cells room_1.slots
  refine OEndW.go (g' := (mkF m 0 (la0_0 q0 q1 q2 q3 p4) [])) (fun _ k => castTop (ef_0 m q0 q1 q2 q3 p4) k) ?_
  refine OEndW.go (T' := s₁) (g' := (mkF m 4 (la0_0 q0 q1 q2 q3 p4) [(.long q0), (.int (0 : Int32)), (.int p4)])) (fun t k => ?_) ?_
  · show Steps p.tables e below (s₁.setTop (mkF m 0 (la0_0 q0 q1 q2 q3 p4) [])) t
    refine XS.iload X0.here hx rfl (hb hby at_0) rfl ?_
    show Steps p.tables e below (s₁.setTop (mkF m 2 (la0_0 q0 q1 q2 q3 p4) [(.int p4)])) t
    refine XS.iconst X0.here hx rfl (hb hby at_2) ?_
    show Steps p.tables e below (s₁.setTop (mkF m 3 (la0_0 q0 q1 q2 q3 p4) [(.int (0 : Int32)), (.int p4)])) t
    refine XS.lloadN X0.here hx rfl (hb hby at_3) rfl ?_
    show Steps p.tables e below (s₁.setTop (mkF m 4 (la0_0 q0 q1 q2 q3 p4) [(.long q0), (.int (0 : Int32)), (.int p4)])) t
    exact k
  obtain ⟨_, _, ⟨T1, L1, k1, n1⟩, -, X1, ⟨Lc1, hQ1, l1, y1, z1⟩, st1⟩ := Jvm.LawKit.callS X0 hx (y := (⟨"com/example/vestledger/vestledger/ledger/SuspenseIsEmptyPinLaw", "pick", "(IIJ)J"⟩ : MethodName)) hown (mvT hZ (hw _ (List.mem_of_getElem? (i := 0) rfl))) (mvT hZ (hw _ (List.mem_of_getElem? (i := 1) rfl))) (mvT hZ (hw _ (List.mem_of_getElem? (i := 2) rfl))) (mvT hZ (hw _ (List.mem_of_getElem? (i := 3) rfl))) (by decide) (backOf (W := 0) (rm1 l Z aZ hw [] p4 (0 : Int32) q0 h0 n0 Z0 ) hZ (hw _ (List.mem_of_getElem? (i := 3) rfl)) (hw _ (List.mem_of_getElem? (i := 2) rfl)) (by decide) (by decide)) (g := (mkF m 4 (la0_0 q0 q1 q2 q3 p4) [(.long q0), (.int (0 : Int32)), (.int p4)])) rfl (by rw [hml]; rfl) (argsL := [(.int p4), (.int (0 : Int32)), (.long q0)]) (rest := []) (lenOf pd__IIJ_J rfl) rfl (by show 2 * 0 + _ ≤ _; exact Nat.le_of_eq rfl) (hb hby at_4) (fun _ _ => ⟨rfl, e0, (by decide : 0 + 0 ≤ _), (by decide : 0 + 0 ≤ _)⟩)
  dsimp only [Pt.U, Pt.locs, Pt.cells, Pt.slots] at X1 l1 y1 z1 st1 hQ1
  subst l1 y1 z1
  obtain ⟨rfl, N1q, e1⟩ := hQ1
  have N1 := Fr.app N0 N1q
  refine OEndW.go (g' := (mkF m 7 (la0_0 q0 q1 q2 q3 p4) [(.long (f1 p4 (0 : Int32) q0))])) st1 ?_
  refine OEndW.go (T' := T1) (g' := (mkF m 13 (la0_1 q0 q1 q2 q3 p4) [(.long q1), (.int (1 : Int32)), (.int p4)])) (fun t k => ?_) ?_
  · show Steps p.tables e below (T1.setTop (mkF m 7 (la0_0 q0 q1 q2 q3 p4) [(.long (f1 p4 (0 : Int32) q0))])) t
    refine XS.lstore X1.here hx rfl (hb hby at_7) rfl (l' := (la0_1 q0 q1 q2 q3 p4)) rfl ?_
    show Steps p.tables e below (T1.setTop (mkF m 9 (la0_1 q0 q1 q2 q3 p4) [])) t
    refine XS.iload X1.here hx rfl (hb hby at_9) rfl ?_
    show Steps p.tables e below (T1.setTop (mkF m 11 (la0_1 q0 q1 q2 q3 p4) [(.int p4)])) t
    refine XS.iconst X1.here hx rfl (hb hby at_11) ?_
    show Steps p.tables e below (T1.setTop (mkF m 12 (la0_1 q0 q1 q2 q3 p4) [(.int (1 : Int32)), (.int p4)])) t
    refine XS.lloadN X1.here hx rfl (hb hby at_12) rfl ?_
    show Steps p.tables e below (T1.setTop (mkF m 13 (la0_1 q0 q1 q2 q3 p4) [(.long q1), (.int (1 : Int32)), (.int p4)])) t
    exact k
  obtain ⟨_, _, ⟨T2, L2, k2, n2⟩, -, X2, ⟨Lc2, hQ2, l2, y2, z2⟩, st2⟩ := Jvm.LawKit.callS X1 hx (y := (⟨"com/example/vestledger/vestledger/ledger/SuspenseIsEmptyPinLaw", "pick", "(IIJ)J"⟩ : MethodName)) hown (mvT hZ (hw _ (List.mem_of_getElem? (i := 0) rfl))) (mvT hZ (hw _ (List.mem_of_getElem? (i := 1) rfl))) (mvT hZ (hw _ (List.mem_of_getElem? (i := 2) rfl))) (mvT hZ (hw _ (List.mem_of_getElem? (i := 3) rfl))) (by decide) (backOf (W := 0) (rm1 l Z aZ hw [] p4 (1 : Int32) q1 h0 n0 Z0 ) hZ (hw _ (List.mem_of_getElem? (i := 3) rfl)) (hw _ (List.mem_of_getElem? (i := 2) rfl)) (by decide) (by decide)) (g := (mkF m 13 (la0_1 q0 q1 q2 q3 p4) [(.long q1), (.int (1 : Int32)), (.int p4)])) rfl (by rw [hml]; rfl) (argsL := [(.int p4), (.int (1 : Int32)), (.long q1)]) (rest := []) (lenOf pd__IIJ_J rfl) rfl (by show 2 * 0 + _ ≤ _; exact Nat.le_of_eq rfl) (hb hby at_13) (fun _ _ => ⟨rfl, e1, (by decide : 0 + 0 ≤ _), (by decide : 0 + 0 ≤ _)⟩)
  dsimp only [Pt.U, Pt.locs, Pt.cells, Pt.slots] at X2 l2 y2 z2 st2 hQ2
  subst l2 y2 z2
  obtain ⟨rfl, N2q, e2⟩ := hQ2
  have N2 := Fr.app N1 N2q
  refine OEndW.go (g' := (mkF m 16 (la0_1 q0 q1 q2 q3 p4) [(.long (f1 p4 (1 : Int32) q1))])) st2 ?_
  refine OEndW.go (T' := T2) (g' := (mkF m 23 (la0_2 q0 q1 q2 q3 p4) [(.long q2), (.int (2 : Int32)), (.int p4)])) (fun t k => ?_) ?_
  · show Steps p.tables e below (T2.setTop (mkF m 16 (la0_1 q0 q1 q2 q3 p4) [(.long (f1 p4 (1 : Int32) q1))])) t
    refine XS.lstore X2.here hx rfl (hb hby at_16) rfl (l' := (la0_2 q0 q1 q2 q3 p4)) rfl ?_
    show Steps p.tables e below (T2.setTop (mkF m 18 (la0_2 q0 q1 q2 q3 p4) [])) t
    refine XS.iload X2.here hx rfl (hb hby at_18) rfl ?_
    show Steps p.tables e below (T2.setTop (mkF m 20 (la0_2 q0 q1 q2 q3 p4) [(.int p4)])) t
    refine XS.iconst X2.here hx rfl (hb hby at_20) ?_
    show Steps p.tables e below (T2.setTop (mkF m 21 (la0_2 q0 q1 q2 q3 p4) [(.int (2 : Int32)), (.int p4)])) t
    refine XS.lload X2.here hx rfl (hb hby at_21) rfl ?_
    show Steps p.tables e below (T2.setTop (mkF m 23 (la0_2 q0 q1 q2 q3 p4) [(.long q2), (.int (2 : Int32)), (.int p4)])) t
    exact k
  obtain ⟨_, _, ⟨T3, L3, k3, n3⟩, -, X3, ⟨Lc3, hQ3, l3, y3, z3⟩, st3⟩ := Jvm.LawKit.callS X2 hx (y := (⟨"com/example/vestledger/vestledger/ledger/SuspenseIsEmptyPinLaw", "pick", "(IIJ)J"⟩ : MethodName)) hown (mvT hZ (hw _ (List.mem_of_getElem? (i := 0) rfl))) (mvT hZ (hw _ (List.mem_of_getElem? (i := 1) rfl))) (mvT hZ (hw _ (List.mem_of_getElem? (i := 2) rfl))) (mvT hZ (hw _ (List.mem_of_getElem? (i := 3) rfl))) (by decide) (backOf (W := 0) (rm1 l Z aZ hw [] p4 (2 : Int32) q2 h0 n0 Z0 ) hZ (hw _ (List.mem_of_getElem? (i := 3) rfl)) (hw _ (List.mem_of_getElem? (i := 2) rfl)) (by decide) (by decide)) (g := (mkF m 23 (la0_2 q0 q1 q2 q3 p4) [(.long q2), (.int (2 : Int32)), (.int p4)])) rfl (by rw [hml]; rfl) (argsL := [(.int p4), (.int (2 : Int32)), (.long q2)]) (rest := []) (lenOf pd__IIJ_J rfl) rfl (by show 2 * 0 + _ ≤ _; exact Nat.le_of_eq rfl) (hb hby at_23) (fun _ _ => ⟨rfl, e2, (by decide : 0 + 0 ≤ _), (by decide : 0 + 0 ≤ _)⟩)
  dsimp only [Pt.U, Pt.locs, Pt.cells, Pt.slots] at X3 l3 y3 z3 st3 hQ3
  subst l3 y3 z3
  obtain ⟨rfl, N3q, e3⟩ := hQ3
  have N3 := Fr.app N2 N3q
  refine OEndW.go (g' := (mkF m 26 (la0_2 q0 q1 q2 q3 p4) [(.long (f1 p4 (2 : Int32) q2))])) st3 ?_
  refine OEndW.go (T' := T3) (g' := (mkF m 33 (la0_3 q0 q1 q2 q3 p4) [(.long q3), (.int (3 : Int32)), (.int p4)])) (fun t k => ?_) ?_
  · show Steps p.tables e below (T3.setTop (mkF m 26 (la0_2 q0 q1 q2 q3 p4) [(.long (f1 p4 (2 : Int32) q2))])) t
    refine XS.lstore X3.here hx rfl (hb hby at_26) rfl (l' := (la0_3 q0 q1 q2 q3 p4)) rfl ?_
    show Steps p.tables e below (T3.setTop (mkF m 28 (la0_3 q0 q1 q2 q3 p4) [])) t
    refine XS.iload X3.here hx rfl (hb hby at_28) rfl ?_
    show Steps p.tables e below (T3.setTop (mkF m 30 (la0_3 q0 q1 q2 q3 p4) [(.int p4)])) t
    refine XS.iconst X3.here hx rfl (hb hby at_30) ?_
    show Steps p.tables e below (T3.setTop (mkF m 31 (la0_3 q0 q1 q2 q3 p4) [(.int (3 : Int32)), (.int p4)])) t
    refine XS.lload X3.here hx rfl (hb hby at_31) rfl ?_
    show Steps p.tables e below (T3.setTop (mkF m 33 (la0_3 q0 q1 q2 q3 p4) [(.long q3), (.int (3 : Int32)), (.int p4)])) t
    exact k
  obtain ⟨_, _, ⟨T4, L4, k4, n4⟩, -, X4, ⟨Lc4, hQ4, l4, y4, z4⟩, st4⟩ := Jvm.LawKit.callS X3 hx (y := (⟨"com/example/vestledger/vestledger/ledger/SuspenseIsEmptyPinLaw", "pick", "(IIJ)J"⟩ : MethodName)) hown (mvT hZ (hw _ (List.mem_of_getElem? (i := 0) rfl))) (mvT hZ (hw _ (List.mem_of_getElem? (i := 1) rfl))) (mvT hZ (hw _ (List.mem_of_getElem? (i := 2) rfl))) (mvT hZ (hw _ (List.mem_of_getElem? (i := 3) rfl))) (by decide) (backOf (W := 0) (rm1 l Z aZ hw [] p4 (3 : Int32) q3 h0 n0 Z0 ) hZ (hw _ (List.mem_of_getElem? (i := 3) rfl)) (hw _ (List.mem_of_getElem? (i := 2) rfl)) (by decide) (by decide)) (g := (mkF m 33 (la0_3 q0 q1 q2 q3 p4) [(.long q3), (.int (3 : Int32)), (.int p4)])) rfl (by rw [hml]; rfl) (argsL := [(.int p4), (.int (3 : Int32)), (.long q3)]) (rest := []) (lenOf pd__IIJ_J rfl) rfl (by show 2 * 0 + _ ≤ _; exact Nat.le_of_eq rfl) (hb hby at_33) (fun _ _ => ⟨rfl, e3, (by decide : 0 + 0 ≤ _), (by decide : 0 + 0 ≤ _)⟩)
  dsimp only [Pt.U, Pt.locs, Pt.cells, Pt.slots] at X4 l4 y4 z4 st4 hQ4
  subst l4 y4 z4
  obtain ⟨rfl, N4q, e4⟩ := hQ4
  have N4 := Fr.app N3 N4q
  refine OEndW.go (g' := (mkF m 36 (la0_3 q0 q1 q2 q3 p4) [(.long (f1 p4 (3 : Int32) q3))])) st4 ?_
  refine OEndW.go (T' := T4) (g' := (mkF m 38 (la0_4 q0 q1 q2 q3 p4) [])) (fun t k => ?_) ?_
  · show Steps p.tables e below (T4.setTop (mkF m 36 (la0_3 q0 q1 q2 q3 p4) [(.long (f1 p4 (3 : Int32) q3))])) t
    refine XS.lstore X4.here hx rfl (hb hby at_36) rfl (l' := (la0_4 q0 q1 q2 q3 p4)) rfl ?_
    show Steps p.tables e below (T4.setTop (mkF m 38 (la0_4 q0 q1 q2 q3 p4) [])) t
    exact k
  obtain ⟨T5, h5, X5, e5, E5, A5, D5, -, st5⟩ := newO X4 hx hZ hown (hw _ (List.mem_of_getElem? (i := 4) rfl)) (hw _ (List.mem_of_getElem? (i := 5) rfl)) (hw _ (List.mem_of_getElem? (i := 6) rfl)) e4 (g := (mkF m 38 (la0_4 q0 q1 q2 q3 p4) [])) rfl (hb hby at_38) (by decide) (by decide)
  obtain ⟨b0_38, g5⟩ : ∃ z, z = h0.size := ⟨_, rfl⟩
  rw [← g5] at A5 D5 st5
  have gle_b0_38 : n0 ≤ b0_38 := Nat.le_trans Z0 (Nat.le_of_eq g5.symm)
  have Z5 : n0 ≤ h5.size := Nat.le_trans Z0 E5.1
  have fc6 : Fld Z h5 b0_38 "com/example/vestledger/vestledger/rules/Balance" "cashCents" "J" (.long (0 : Int64)) := D5 (Or.inr (hw _ (List.mem_of_getElem? (i := 19) rfl))) (ty := .long) (by decide)
  have fc7 : Fld Z h5 b0_38 "com/example/vestledger/vestledger/rules/Balance" "shareUnits" "J" (.long (0 : Int64)) := D5 (Or.inr (hw _ (List.mem_of_getElem? (i := 21) rfl))) (ty := .long) (by decide)
  refine OEndW.go (g' := (mkF m 41 (la0_4 q0 q1 q2 q3 p4) [(.ref b0_38)])) st5 ?_
  refine OEndW.go (T' := T5) (g' := (mkF m 46 (la0_4 q0 q1 q2 q3 p4) [(.long (f1 p4 (1 : Int32) q1)), (.long (f1 p4 (0 : Int32) q0)), (.ref b0_38), (.ref b0_38)])) (fun t k => ?_) ?_
  · show Steps p.tables e below (T5.setTop (mkF m 41 (la0_4 q0 q1 q2 q3 p4) [(.ref b0_38)])) t
    refine XS.dup X5.here hx rfl (hb hby at_41) rfl rfl ?_
    show Steps p.tables e below (T5.setTop (mkF m 42 (la0_4 q0 q1 q2 q3 p4) [(.ref b0_38), (.ref b0_38)])) t
    refine XS.lload X5.here hx rfl (hb hby at_42) rfl ?_
    show Steps p.tables e below (T5.setTop (mkF m 44 (la0_4 q0 q1 q2 q3 p4) [(.long (f1 p4 (0 : Int32) q0)), (.ref b0_38), (.ref b0_38)])) t
    refine XS.lload X5.here hx rfl (hb hby at_44) rfl ?_
    show Steps p.tables e below (T5.setTop (mkF m 46 (la0_4 q0 q1 q2 q3 p4) [(.long (f1 p4 (1 : Int32) q1)), (.long (f1 p4 (0 : Int32) q0)), (.ref b0_38), (.ref b0_38)])) t
    exact k
  obtain ⟨_, _, ⟨T8, L8, k8, n8⟩, -, X8, ⟨Lc8, hQ8, l8, y8, z8⟩, st8⟩ := X5.specialBack hx (y := (⟨"com/example/vestledger/vestledger/rules/Balance", "<init>", "(JJ)V"⟩ : MethodName)) rfl hown (mvT hZ (hw _ (List.mem_of_getElem? (i := 7) rfl))) (mvT hZ (hw _ (List.mem_of_getElem? (i := 8) rfl))) (mvT hZ (hw _ (List.mem_of_getElem? (i := 9) rfl))) (by decide) (backOf (W := 1) (rm2 l Z aZ hw [] b0_38 (f1 p4 (0 : Int32) q0) (f1 p4 (1 : Int32) q1) h5 n0 Z5 fc6 fc7 A5 gle_b0_38) hZ (hw _ (List.mem_of_getElem? (i := 9) rfl)) (hw _ (List.mem_of_getElem? (i := 6) rfl)) (by decide) (by decide)) (g := (mkF m 46 (la0_4 q0 q1 q2 q3 p4) [(.long (f1 p4 (1 : Int32) q1)), (.long (f1 p4 (0 : Int32) q0)), (.ref b0_38), (.ref b0_38)])) rfl (by rw [hml]; rfl) (Steps.refl _) (a := b0_38) (argsL := [(.long (f1 p4 (0 : Int32) q0)), (.long (f1 p4 (1 : Int32) q1))]) (rest := [(.ref b0_38)]) (lenOf pd__JJ_V rfl) rfl (by show 2 * 0 + _ ≤ _; exact Nat.le_of_eq rfl) (hb hby at_46) (fun _ _ => ⟨rfl, e5, (by decide : 1 + 0 ≤ _), (by decide : 2 + 0 ≤ _)⟩)
  dsimp only [Pt.U, Pt.locs, Pt.cells, Pt.slots] at X8 l8 y8 z8 st8 hQ8
  subst l8 y8 z8
  obtain ⟨rfl, N8q, u8_0, u8_1, u8_2, u8_3⟩ := hQ8
  have N8 := Fr.app N4 N8q
  have Z8 : n0 ≤ T8.heap.size := Nat.le_trans Z5 u8_0.1
  refine OEndW.go (g' := (mkF m 49 (la0_4 q0 q1 q2 q3 p4) [(.ref b0_38)])) (fun _ k => st8.trans k) ?_
  refine OEndW.go (T' := T8) (g' := (mkF m 51 (la0_5 q0 q1 q2 q3 p4 b0_38) [])) (fun t k => ?_) ?_
  · show Steps p.tables e below (T8.setTop (mkF m 49 (la0_4 q0 q1 q2 q3 p4) [(.ref b0_38)])) t
    refine XS.astore X8.here hx rfl (hb hby at_49) rfl rfl (l' := (la0_5 q0 q1 q2 q3 p4 b0_38)) rfl ?_
    show Steps p.tables e below (T8.setTop (mkF m 51 (la0_5 q0 q1 q2 q3 p4 b0_38) [])) t
    exact k
  obtain ⟨T9, h9, X9, e9, E9, A9, D9, -, st9⟩ := newO X8 hx hZ hown (hw _ (List.mem_of_getElem? (i := 4) rfl)) (hw _ (List.mem_of_getElem? (i := 5) rfl)) (hw _ (List.mem_of_getElem? (i := 6) rfl)) rfl (g := (mkF m 51 (la0_5 q0 q1 q2 q3 p4 b0_38) [])) rfl (hb hby at_51) (by decide) (by decide)
  obtain ⟨b0_51, g9⟩ : ∃ z, z = T8.heap.size := ⟨_, rfl⟩
  rw [← g9] at A9 D9 st9
  have gle_b0_51 : n0 ≤ b0_51 := Nat.le_trans Z8 (Nat.le_of_eq g9.symm)
  have ne_b0_38_b0_51 : b0_38 ≠ b0_51 := Nat.ne_of_lt (Nat.lt_of_lt_of_le u8_1.lt (Nat.le_of_eq g9.symm))
  have fc10 : Exa Z h9 b0_38 "com/example/vestledger/vestledger/rules/Balance" := (u8_1.ext E9)
  have fc11 : Fld Z h9 b0_38 "com/example/vestledger/vestledger/rules/Balance" "cashCents" "J" (.long (f1 p4 (0 : Int32) q0)) := (u8_2.ext E9)
  have fc12 : Fld Z h9 b0_38 "com/example/vestledger/vestledger/rules/Balance" "shareUnits" "J" (.long (f1 p4 (1 : Int32) q1)) := (u8_3.ext E9)
  have Z9 : n0 ≤ h9.size := Nat.le_trans Z8 E9.1
  have fc13 : Fld Z h9 b0_51 "com/example/vestledger/vestledger/rules/Balance" "cashCents" "J" (.long (0 : Int64)) := D9 (Or.inr (hw _ (List.mem_of_getElem? (i := 19) rfl))) (ty := .long) (by decide)
  have fc14 : Fld Z h9 b0_51 "com/example/vestledger/vestledger/rules/Balance" "shareUnits" "J" (.long (0 : Int64)) := D9 (Or.inr (hw _ (List.mem_of_getElem? (i := 21) rfl))) (ty := .long) (by decide)
  refine OEndW.go (g' := (mkF m 54 (la0_5 q0 q1 q2 q3 p4 b0_38) [(.ref b0_51)])) st9 ?_
  refine OEndW.go (T' := T9) (g' := (mkF m 59 (la0_5 q0 q1 q2 q3 p4 b0_38) [(.long (f1 p4 (3 : Int32) q3)), (.long (f1 p4 (2 : Int32) q2)), (.ref b0_51), (.ref b0_51)])) (fun t k => ?_) ?_
  · show Steps p.tables e below (T9.setTop (mkF m 54 (la0_5 q0 q1 q2 q3 p4 b0_38) [(.ref b0_51)])) t
    refine XS.dup X9.here hx rfl (hb hby at_54) rfl rfl ?_
    show Steps p.tables e below (T9.setTop (mkF m 55 (la0_5 q0 q1 q2 q3 p4 b0_38) [(.ref b0_51), (.ref b0_51)])) t
    refine XS.lload X9.here hx rfl (hb hby at_55) rfl ?_
    show Steps p.tables e below (T9.setTop (mkF m 57 (la0_5 q0 q1 q2 q3 p4 b0_38) [(.long (f1 p4 (2 : Int32) q2)), (.ref b0_51), (.ref b0_51)])) t
    refine XS.lload X9.here hx rfl (hb hby at_57) rfl ?_
    show Steps p.tables e below (T9.setTop (mkF m 59 (la0_5 q0 q1 q2 q3 p4 b0_38) [(.long (f1 p4 (3 : Int32) q3)), (.long (f1 p4 (2 : Int32) q2)), (.ref b0_51), (.ref b0_51)])) t
    exact k
  obtain ⟨_, _, ⟨T15, L15, k15, n15⟩, -, X15, ⟨Lc15, hQ15, l15, y15, z15⟩, st15⟩ := X9.specialBack hx (y := (⟨"com/example/vestledger/vestledger/rules/Balance", "<init>", "(JJ)V"⟩ : MethodName)) rfl hown (mvT hZ (hw _ (List.mem_of_getElem? (i := 7) rfl))) (mvT hZ (hw _ (List.mem_of_getElem? (i := 8) rfl))) (mvT hZ (hw _ (List.mem_of_getElem? (i := 9) rfl))) (by decide) (backOf (W := 1) (rm2 l Z aZ hw [] b0_51 (f1 p4 (2 : Int32) q2) (f1 p4 (3 : Int32) q3) h9 n0 Z9 fc13 fc14 A9 gle_b0_51) hZ (hw _ (List.mem_of_getElem? (i := 9) rfl)) (hw _ (List.mem_of_getElem? (i := 6) rfl)) (by decide) (by decide)) (g := (mkF m 59 (la0_5 q0 q1 q2 q3 p4 b0_38) [(.long (f1 p4 (3 : Int32) q3)), (.long (f1 p4 (2 : Int32) q2)), (.ref b0_51), (.ref b0_51)])) rfl (by rw [hml]; rfl) (Steps.refl _) (a := b0_51) (argsL := [(.long (f1 p4 (2 : Int32) q2)), (.long (f1 p4 (3 : Int32) q3))]) (rest := [(.ref b0_51)]) (lenOf pd__JJ_V rfl) rfl (by show 2 * 0 + _ ≤ _; exact Nat.le_of_eq rfl) (hb hby at_59) (fun _ _ => ⟨rfl, e9, (by decide : 2 + 0 ≤ _), (by decide : 4 + 0 ≤ _)⟩)
  dsimp only [Pt.U, Pt.locs, Pt.cells, Pt.slots] at X15 l15 y15 z15 st15 hQ15
  subst l15 y15 z15
  obtain ⟨rfl, N15q, u15_0, u15_1, u15_2, u15_3⟩ := hQ15
  have N15 := Fr.app N8 N15q
  have Z15 : n0 ≤ T15.heap.size := Nat.le_trans Z9 u15_0.1
  have fc16 : Exa Z T15.heap b0_38 "com/example/vestledger/vestledger/rules/Balance" := (fc10.keep u15_0)
  have fc17 : Fld Z T15.heap b0_38 "com/example/vestledger/vestledger/rules/Balance" "cashCents" "J" (.long (f1 p4 (0 : Int32) q0)) := (fc11.keep u15_0 (ninS ne_b0_38_b0_51 nin0))
  have fc18 : Fld Z T15.heap b0_38 "com/example/vestledger/vestledger/rules/Balance" "shareUnits" "J" (.long (f1 p4 (1 : Int32) q1)) := (fc12.keep u15_0 (ninS ne_b0_38_b0_51 nin0))
  refine OEndW.go (g' := (mkF m 62 (la0_5 q0 q1 q2 q3 p4 b0_38) [(.ref b0_51)])) (fun _ k => st15.trans k) ?_
  refine OEndW.go (T' := T15) (g' := (mkF m 64 (la0_6 q0 q1 q2 q3 p4 b0_38 b0_51) [])) (fun t k => ?_) ?_
  · show Steps p.tables e below (T15.setTop (mkF m 62 (la0_5 q0 q1 q2 q3 p4 b0_38) [(.ref b0_51)])) t
    refine XS.astore X15.here hx rfl (hb hby at_62) rfl rfl (l' := (la0_6 q0 q1 q2 q3 p4 b0_38 b0_51)) rfl ?_
    show Steps p.tables e below (T15.setTop (mkF m 64 (la0_6 q0 q1 q2 q3 p4 b0_38 b0_51) [])) t
    exact k
  obtain ⟨T19, h19, X19, e19, E19, A19, D19, -, st19⟩ := newO X15 hx hZ hown (hw _ (List.mem_of_getElem? (i := 22) rfl)) (hw _ (List.mem_of_getElem? (i := 23) rfl)) (hw _ (List.mem_of_getElem? (i := 24) rfl)) rfl (g := (mkF m 64 (la0_6 q0 q1 q2 q3 p4 b0_38 b0_51) [])) rfl (hb hby at_64) (by decide) (by decide)
  obtain ⟨b0_64, g19⟩ : ∃ z, z = T15.heap.size := ⟨_, rfl⟩
  rw [← g19] at A19 D19 st19
  have gle_b0_64 : n0 ≤ b0_64 := Nat.le_trans Z15 (Nat.le_of_eq g19.symm)
  have ne_b0_38_b0_64 : b0_38 ≠ b0_64 := Nat.ne_of_lt (Nat.lt_of_lt_of_le fc16.lt (Nat.le_of_eq g19.symm))
  have ne_b0_51_b0_64 : b0_51 ≠ b0_64 := Nat.ne_of_lt (Nat.lt_of_lt_of_le u15_1.lt (Nat.le_of_eq g19.symm))
  have fc20 : Exa Z h19 b0_38 "com/example/vestledger/vestledger/rules/Balance" := (fc16.ext E19)
  have fc21 : Fld Z h19 b0_38 "com/example/vestledger/vestledger/rules/Balance" "cashCents" "J" (.long (f1 p4 (0 : Int32) q0)) := (fc17.ext E19)
  have fc22 : Fld Z h19 b0_38 "com/example/vestledger/vestledger/rules/Balance" "shareUnits" "J" (.long (f1 p4 (1 : Int32) q1)) := (fc18.ext E19)
  have fc23 : Exa Z h19 b0_51 "com/example/vestledger/vestledger/rules/Balance" := (u15_1.ext E19)
  have fc24 : Fld Z h19 b0_51 "com/example/vestledger/vestledger/rules/Balance" "cashCents" "J" (.long (f1 p4 (2 : Int32) q2)) := (u15_2.ext E19)
  have fc25 : Fld Z h19 b0_51 "com/example/vestledger/vestledger/rules/Balance" "shareUnits" "J" (.long (f1 p4 (3 : Int32) q3)) := (u15_3.ext E19)
  have Z19 : n0 ≤ h19.size := Nat.le_trans Z15 E19.1
  have fc26 : Fld Z h19 b0_64 "com/example/vestledger/vestledger/ledger/Suspense" "released" "Lcom/example/vestledger/vestledger/rules/Balance;" .null := D19 (Or.inr (hw _ (List.mem_of_getElem? (i := 43) rfl))) (ty := (.object "com/example/vestledger/vestledger/rules/Balance")) (by decide)
  have fc27 : Fld Z h19 b0_64 "com/example/vestledger/vestledger/ledger/Suspense" "held" "Lcom/example/vestledger/vestledger/rules/Balance;" .null := D19 (Or.inr (hw _ (List.mem_of_getElem? (i := 45) rfl))) (ty := (.object "com/example/vestledger/vestledger/rules/Balance")) (by decide)
  refine OEndW.go (g' := (mkF m 67 (la0_6 q0 q1 q2 q3 p4 b0_38 b0_51) [(.ref b0_64)])) st19 ?_
  refine OEndW.go (T' := T19) (g' := (mkF m 72 (la0_6 q0 q1 q2 q3 p4 b0_38 b0_51) [(.ref b0_51), (.ref b0_38), (.ref b0_64), (.ref b0_64)])) (fun t k => ?_) ?_
  · show Steps p.tables e below (T19.setTop (mkF m 67 (la0_6 q0 q1 q2 q3 p4 b0_38 b0_51) [(.ref b0_64)])) t
    refine XS.dup X19.here hx rfl (hb hby at_67) rfl rfl ?_
    show Steps p.tables e below (T19.setTop (mkF m 68 (la0_6 q0 q1 q2 q3 p4 b0_38 b0_51) [(.ref b0_64), (.ref b0_64)])) t
    refine XS.aload X19.here hx rfl (hb hby at_68) rfl rfl ?_
    show Steps p.tables e below (T19.setTop (mkF m 70 (la0_6 q0 q1 q2 q3 p4 b0_38 b0_51) [(.ref b0_38), (.ref b0_64), (.ref b0_64)])) t
    refine XS.aload X19.here hx rfl (hb hby at_70) rfl rfl ?_
    show Steps p.tables e below (T19.setTop (mkF m 72 (la0_6 q0 q1 q2 q3 p4 b0_38 b0_51) [(.ref b0_51), (.ref b0_38), (.ref b0_64), (.ref b0_64)])) t
    exact k
  obtain ⟨_, _, ⟨T28, L28, k28, n28⟩, -, X28, hS28, hgr28, ⟨Lc28, hQ28, l28, y28, z28⟩, st28⟩ := X19.specialBackS hx (y := (⟨"com/example/vestledger/vestledger/ledger/Suspense", "<init>", "(Lcom/example/vestledger/vestledger/rules/Balance;Lcom/example/vestledger/vestledger/rules/Balance;)V"⟩ : MethodName)) rfl hown (mvT hZ (hw _ (List.mem_of_getElem? (i := 25) rfl))) (mvT hZ (hw _ (List.mem_of_getElem? (i := 26) rfl))) (mvT hZ (hw _ (List.mem_of_getElem? (i := 27) rfl))) (by decide) (backOfS (W := 1) (rm5 l Z aZ hw [] b0_64 b0_38 b0_51 h19 n0 Z19 fc26 fc27 A19 gle_b0_64) hZ (hw _ (List.mem_of_getElem? (i := 27) rfl)) (hw _ (List.mem_of_getElem? (i := 24) rfl)) (by decide) (by decide)) (g := (mkF m 72 (la0_6 q0 q1 q2 q3 p4 b0_38 b0_51) [(.ref b0_51), (.ref b0_38), (.ref b0_64), (.ref b0_64)])) rfl (by rw [hml]; rfl) (Steps.refl _) (a := b0_64) (argsL := [(.ref b0_38), (.ref b0_51)]) (rest := [(.ref b0_64)]) (lenOf pd__Lcom_example_vestledger_vestledger_rules_Balance_Lcom_example_vestledger_vestledger_rules_Balance__V rfl) rfl (by show 2 * 0 + _ ≤ _; exact Nat.le_of_eq rfl) (hb hby at_72) (fun _ _ => ⟨rfl, e19, (by decide : 3 + 4 ≤ _), (by decide : 6 + 56 ≤ _)⟩)
  have hZ : Z.Warmed39 (s.setVm T28.vm).vm := State.Warmed39.trans (t := s) hZ hS28.1
  have hown : (s.setVm T28.vm).vm.findClass "com/example/vestledger/vestledger/ledger/SuspenseIsEmptyPinLaw" = some m.cls := by rw [show (s.setVm T28.vm).vm = T28.vm from rfl, hS28.1.alike.findClass]; exact hown
  dsimp only [Pt.U, Pt.locs, Pt.cells, Pt.slots] at X28 l28 y28 z28 st28 hQ28
  subst l28 y28 z28
  obtain ⟨rfl, N28q, u28_0, u28_1, u28_2, u28_3⟩ := hQ28
  have N28 := Fr.app N15 N28q
  have Z28 : n0 ≤ T28.heap.size := Nat.le_trans Z19 u28_0.1
  have fc29 : Exa Z T28.heap b0_38 "com/example/vestledger/vestledger/rules/Balance" := (fc20.keep u28_0)
  have fc30 : Fld Z T28.heap b0_38 "com/example/vestledger/vestledger/rules/Balance" "cashCents" "J" (.long (f1 p4 (0 : Int32) q0)) := (fc21.keep u28_0 (ninS ne_b0_38_b0_64 nin0))
  have fc31 : Fld Z T28.heap b0_38 "com/example/vestledger/vestledger/rules/Balance" "shareUnits" "J" (.long (f1 p4 (1 : Int32) q1)) := (fc22.keep u28_0 (ninS ne_b0_38_b0_64 nin0))
  have fc32 : Exa Z T28.heap b0_51 "com/example/vestledger/vestledger/rules/Balance" := (fc23.keep u28_0)
  have fc33 : Fld Z T28.heap b0_51 "com/example/vestledger/vestledger/rules/Balance" "cashCents" "J" (.long (f1 p4 (2 : Int32) q2)) := (fc24.keep u28_0 (ninS ne_b0_51_b0_64 nin0))
  have fc34 : Fld Z T28.heap b0_51 "com/example/vestledger/vestledger/rules/Balance" "shareUnits" "J" (.long (f1 p4 (3 : Int32) q3)) := (fc25.keep u28_0 (ninS ne_b0_51_b0_64 nin0))
  refine OEndW.go (g' := (mkF m 75 (la0_6 q0 q1 q2 q3 p4 b0_38 b0_51) [(.ref b0_64)])) (fun _ k => st28.trans k) ?_
  refine OEndW.go (T' := T28) (g' := (mkF m 81 (la0_7 q0 q1 q2 q3 p4 b0_38 b0_51 b0_64) [(.int (lcmpW (f1 p4 (0 : Int32) q0) (0 : Int64)))])) (fun t k => ?_) ?_
  · show Steps p.tables e below (T28.setTop (mkF m 75 (la0_6 q0 q1 q2 q3 p4 b0_38 b0_51) [(.ref b0_64)])) t
    refine XS.astore X28.here hx rfl (hb hby at_75) rfl rfl (l' := (la0_7 q0 q1 q2 q3 p4 b0_38 b0_51 b0_64)) rfl ?_
    show Steps p.tables e below (T28.setTop (mkF m 77 (la0_7 q0 q1 q2 q3 p4 b0_38 b0_51 b0_64) [])) t
    refine XS.lload X28.here hx rfl (hb hby at_77) rfl ?_
    show Steps p.tables e below (T28.setTop (mkF m 79 (la0_7 q0 q1 q2 q3 p4 b0_38 b0_51 b0_64) [(.long (f1 p4 (0 : Int32) q0))])) t
    refine XS.lconst X28.here hx rfl (hb hby at_79) ?_
    show Steps p.tables e below (T28.setTop (mkF m 80 (la0_7 q0 q1 q2 q3 p4 b0_38 b0_51 b0_64) [(.long (0 : Int64)), (.long (f1 p4 (0 : Int32) q0))])) t
    refine XS.lcmp X28.here hx rfl (hb hby at_80) rfl ?_
    show Steps p.tables e below (T28.setTop (mkF m 81 (la0_7 q0 q1 q2 q3 p4 b0_38 b0_51 b0_64) [(.int (lcmpW (f1 p4 (0 : Int32) q0) (0 : Int64)))])) t
    exact k
  refine OEndW.go (T' := T28) (g' := (mkF m 110 (la0_7 q0 q1 q2 q3 p4 b0_38 b0_51 b0_64) [(.int (if (f1 p4 (0 : Int32) q0) = (0 : Int64) then (if (f1 p4 (1 : Int32) q1) = (0 : Int64) then (if (f1 p4 (2 : Int32) q2) = (0 : Int64) then (if (f1 p4 (3 : Int32) q3) = (0 : Int64) then (1 : Int32) else (0 : Int32)) else (0 : Int32)) else (0 : Int32)) else (0 : Int32)))])) (fun t k => ?_) ?_
  · show Steps p.tables e below (T28.setTop (mkF m 81 (la0_7 q0 q1 q2 q3 p4 b0_38 b0_51 b0_64) [(.int (lcmpW (f1 p4 (0 : Int32) q0) (0 : Int64)))])) t
    by_cases hc35 : (f1 p4 (0 : Int32) q0) = (0 : Int64)
    · skip
      refine XS.ifNo X28.here hx rfl (hb hby at_81) rfl ((if0 _ _).trans (teq ((lw_eq (f1 p4 (0 : Int32) q0) (0 : Int64)).mpr hc35)).2) ?_
      show Steps p.tables e below (T28.setTop (mkF m 84 (la0_7 q0 q1 q2 q3 p4 b0_38 b0_51 b0_64) [])) t
      refine SGo.go (T' := T28) (g' := (mkF m 88 (la0_7 q0 q1 q2 q3 p4 b0_38 b0_51 b0_64) [(.int (lcmpW (f1 p4 (1 : Int32) q1) (0 : Int64)))])) (fun t k => ?_) ?_
      · show Steps p.tables e below (T28.setTop (mkF m 84 (la0_7 q0 q1 q2 q3 p4 b0_38 b0_51 b0_64) [])) t
        refine XS.lload X28.here hx rfl (hb hby at_84) rfl ?_
        show Steps p.tables e below (T28.setTop (mkF m 86 (la0_7 q0 q1 q2 q3 p4 b0_38 b0_51 b0_64) [(.long (f1 p4 (1 : Int32) q1))])) t
        refine XS.lconst X28.here hx rfl (hb hby at_86) ?_
        show Steps p.tables e below (T28.setTop (mkF m 87 (la0_7 q0 q1 q2 q3 p4 b0_38 b0_51 b0_64) [(.long (0 : Int64)), (.long (f1 p4 (1 : Int32) q1))])) t
        refine XS.lcmp X28.here hx rfl (hb hby at_87) rfl ?_
        show Steps p.tables e below (T28.setTop (mkF m 88 (la0_7 q0 q1 q2 q3 p4 b0_38 b0_51 b0_64) [(.int (lcmpW (f1 p4 (1 : Int32) q1) (0 : Int64)))])) t
        exact k
      by_cases hc36 : (f1 p4 (1 : Int32) q1) = (0 : Int64)
      · skip
        refine XS.ifNo X28.here hx rfl (hb hby at_88) rfl ((if0 _ _).trans (teq ((lw_eq (f1 p4 (1 : Int32) q1) (0 : Int64)).mpr hc36)).2) ?_
        show Steps p.tables e below (T28.setTop (mkF m 91 (la0_7 q0 q1 q2 q3 p4 b0_38 b0_51 b0_64) [])) t
        refine SGo.go (T' := T28) (g' := (mkF m 95 (la0_7 q0 q1 q2 q3 p4 b0_38 b0_51 b0_64) [(.int (lcmpW (f1 p4 (2 : Int32) q2) (0 : Int64)))])) (fun t k => ?_) ?_
        · show Steps p.tables e below (T28.setTop (mkF m 91 (la0_7 q0 q1 q2 q3 p4 b0_38 b0_51 b0_64) [])) t
          refine XS.lload X28.here hx rfl (hb hby at_91) rfl ?_
          show Steps p.tables e below (T28.setTop (mkF m 93 (la0_7 q0 q1 q2 q3 p4 b0_38 b0_51 b0_64) [(.long (f1 p4 (2 : Int32) q2))])) t
          refine XS.lconst X28.here hx rfl (hb hby at_93) ?_
          show Steps p.tables e below (T28.setTop (mkF m 94 (la0_7 q0 q1 q2 q3 p4 b0_38 b0_51 b0_64) [(.long (0 : Int64)), (.long (f1 p4 (2 : Int32) q2))])) t
          refine XS.lcmp X28.here hx rfl (hb hby at_94) rfl ?_
          show Steps p.tables e below (T28.setTop (mkF m 95 (la0_7 q0 q1 q2 q3 p4 b0_38 b0_51 b0_64) [(.int (lcmpW (f1 p4 (2 : Int32) q2) (0 : Int64)))])) t
          exact k
        by_cases hc37 : (f1 p4 (2 : Int32) q2) = (0 : Int64)
        · skip
          refine XS.ifNo X28.here hx rfl (hb hby at_95) rfl ((if0 _ _).trans (teq ((lw_eq (f1 p4 (2 : Int32) q2) (0 : Int64)).mpr hc37)).2) ?_
          show Steps p.tables e below (T28.setTop (mkF m 98 (la0_7 q0 q1 q2 q3 p4 b0_38 b0_51 b0_64) [])) t
          refine SGo.go (T' := T28) (g' := (mkF m 102 (la0_7 q0 q1 q2 q3 p4 b0_38 b0_51 b0_64) [(.int (lcmpW (f1 p4 (3 : Int32) q3) (0 : Int64)))])) (fun t k => ?_) ?_
          · show Steps p.tables e below (T28.setTop (mkF m 98 (la0_7 q0 q1 q2 q3 p4 b0_38 b0_51 b0_64) [])) t
            refine XS.lload X28.here hx rfl (hb hby at_98) rfl ?_
            show Steps p.tables e below (T28.setTop (mkF m 100 (la0_7 q0 q1 q2 q3 p4 b0_38 b0_51 b0_64) [(.long (f1 p4 (3 : Int32) q3))])) t
            refine XS.lconst X28.here hx rfl (hb hby at_100) ?_
            show Steps p.tables e below (T28.setTop (mkF m 101 (la0_7 q0 q1 q2 q3 p4 b0_38 b0_51 b0_64) [(.long (0 : Int64)), (.long (f1 p4 (3 : Int32) q3))])) t
            refine XS.lcmp X28.here hx rfl (hb hby at_101) rfl ?_
            show Steps p.tables e below (T28.setTop (mkF m 102 (la0_7 q0 q1 q2 q3 p4 b0_38 b0_51 b0_64) [(.int (lcmpW (f1 p4 (3 : Int32) q3) (0 : Int64)))])) t
            exact k
          by_cases hc38 : (f1 p4 (3 : Int32) q3) = (0 : Int64)
          · skip
            refine XS.ifNo X28.here hx rfl (hb hby at_102) rfl ((if0 _ _).trans (teq ((lw_eq (f1 p4 (3 : Int32) q3) (0 : Int64)).mpr hc38)).2) ?_
            show Steps p.tables e below (T28.setTop (mkF m 105 (la0_7 q0 q1 q2 q3 p4 b0_38 b0_51 b0_64) [])) t
            refine SGo.go (T' := T28) (g' := (mkF m 110 (la0_7 q0 q1 q2 q3 p4 b0_38 b0_51 b0_64) [(.int (1 : Int32))])) (fun t k => ?_) ?_
            · show Steps p.tables e below (T28.setTop (mkF m 105 (la0_7 q0 q1 q2 q3 p4 b0_38 b0_51 b0_64) [])) t
              refine XS.iconst X28.here hx rfl (hb hby at_105) ?_
              show Steps p.tables e below (T28.setTop (mkF m 106 (la0_7 q0 q1 q2 q3 p4 b0_38 b0_51 b0_64) [(.int (1 : Int32))])) t
              refine XS.goto X28.here hx rfl (pc0 := 106) (pc' := 110) rfl (hb hby at_106) (by decide) (by decide) ?_
              show Steps p.tables e below (T28.setTop (mkF m 110 (la0_7 q0 q1 q2 q3 p4 b0_38 b0_51 b0_64) [(.int (1 : Int32))])) t
              exact k
            exact (own_k (f := fun (z : Int32) => mkF m 110 #[.val (.long q0), .second, .val (.long q1), .second, .val (.long q2), .second, .val (.long q3), .second, .val (.int p4), .val (.long (f1 p4 (0 : Int32) q0)), .second, .val (.long (f1 p4 (1 : Int32) q1)), .second, .val (.long (f1 p4 (2 : Int32) q2)), .second, .val (.long (f1 p4 (3 : Int32) q3)), .second, .val (.ref b0_38), .val (.ref b0_51), .val (.ref b0_64), .unset] [(.int z)]) ((if_pos hc35).trans ((if_pos hc36).trans ((if_pos hc37).trans (if_pos hc38)))) k)
          · skip
            refine XS.ifYes X28.here hx rfl (pc0 := 102) (pc' := 109) rfl (hb hby at_102) rfl ((if0 _ _).trans (feq ((fun q => hc38 ((lw_eq (f1 p4 (3 : Int32) q3) (0 : Int64)).mp q)))).2) (by decide) (by decide) ?_
            show Steps p.tables e below (T28.setTop (mkF m 109 (la0_7 q0 q1 q2 q3 p4 b0_38 b0_51 b0_64) [])) t
            refine SGo.go (T' := T28) (g' := (mkF m 110 (la0_7 q0 q1 q2 q3 p4 b0_38 b0_51 b0_64) [(.int (0 : Int32))])) (fun t k => ?_) ?_
            · show Steps p.tables e below (T28.setTop (mkF m 109 (la0_7 q0 q1 q2 q3 p4 b0_38 b0_51 b0_64) [])) t
              refine XS.iconst X28.here hx rfl (hb hby at_109) ?_
              show Steps p.tables e below (T28.setTop (mkF m 110 (la0_7 q0 q1 q2 q3 p4 b0_38 b0_51 b0_64) [(.int (0 : Int32))])) t
              exact k
            exact (own_k (f := fun (z : Int32) => mkF m 110 #[.val (.long q0), .second, .val (.long q1), .second, .val (.long q2), .second, .val (.long q3), .second, .val (.int p4), .val (.long (f1 p4 (0 : Int32) q0)), .second, .val (.long (f1 p4 (1 : Int32) q1)), .second, .val (.long (f1 p4 (2 : Int32) q2)), .second, .val (.long (f1 p4 (3 : Int32) q3)), .second, .val (.ref b0_38), .val (.ref b0_51), .val (.ref b0_64), .unset] [(.int z)]) ((if_pos hc35).trans ((if_pos hc36).trans ((if_pos hc37).trans (if_neg hc38)))) k)
        · skip
          refine XS.ifYes X28.here hx rfl (pc0 := 95) (pc' := 109) rfl (hb hby at_95) rfl ((if0 _ _).trans (feq ((fun q => hc37 ((lw_eq (f1 p4 (2 : Int32) q2) (0 : Int64)).mp q)))).2) (by decide) (by decide) ?_
          show Steps p.tables e below (T28.setTop (mkF m 109 (la0_7 q0 q1 q2 q3 p4 b0_38 b0_51 b0_64) [])) t
          refine SGo.go (T' := T28) (g' := (mkF m 110 (la0_7 q0 q1 q2 q3 p4 b0_38 b0_51 b0_64) [(.int (0 : Int32))])) (fun t k => ?_) ?_
          · show Steps p.tables e below (T28.setTop (mkF m 109 (la0_7 q0 q1 q2 q3 p4 b0_38 b0_51 b0_64) [])) t
            refine XS.iconst X28.here hx rfl (hb hby at_109) ?_
            show Steps p.tables e below (T28.setTop (mkF m 110 (la0_7 q0 q1 q2 q3 p4 b0_38 b0_51 b0_64) [(.int (0 : Int32))])) t
            exact k
          exact (own_k (f := fun (z : Int32) => mkF m 110 #[.val (.long q0), .second, .val (.long q1), .second, .val (.long q2), .second, .val (.long q3), .second, .val (.int p4), .val (.long (f1 p4 (0 : Int32) q0)), .second, .val (.long (f1 p4 (1 : Int32) q1)), .second, .val (.long (f1 p4 (2 : Int32) q2)), .second, .val (.long (f1 p4 (3 : Int32) q3)), .second, .val (.ref b0_38), .val (.ref b0_51), .val (.ref b0_64), .unset] [(.int z)]) ((if_pos hc35).trans ((if_pos hc36).trans (if_neg hc37))) k)
      · skip
        refine XS.ifYes X28.here hx rfl (pc0 := 88) (pc' := 109) rfl (hb hby at_88) rfl ((if0 _ _).trans (feq ((fun q => hc36 ((lw_eq (f1 p4 (1 : Int32) q1) (0 : Int64)).mp q)))).2) (by decide) (by decide) ?_
        show Steps p.tables e below (T28.setTop (mkF m 109 (la0_7 q0 q1 q2 q3 p4 b0_38 b0_51 b0_64) [])) t
        refine SGo.go (T' := T28) (g' := (mkF m 110 (la0_7 q0 q1 q2 q3 p4 b0_38 b0_51 b0_64) [(.int (0 : Int32))])) (fun t k => ?_) ?_
        · show Steps p.tables e below (T28.setTop (mkF m 109 (la0_7 q0 q1 q2 q3 p4 b0_38 b0_51 b0_64) [])) t
          refine XS.iconst X28.here hx rfl (hb hby at_109) ?_
          show Steps p.tables e below (T28.setTop (mkF m 110 (la0_7 q0 q1 q2 q3 p4 b0_38 b0_51 b0_64) [(.int (0 : Int32))])) t
          exact k
        exact (own_k (f := fun (z : Int32) => mkF m 110 #[.val (.long q0), .second, .val (.long q1), .second, .val (.long q2), .second, .val (.long q3), .second, .val (.int p4), .val (.long (f1 p4 (0 : Int32) q0)), .second, .val (.long (f1 p4 (1 : Int32) q1)), .second, .val (.long (f1 p4 (2 : Int32) q2)), .second, .val (.long (f1 p4 (3 : Int32) q3)), .second, .val (.ref b0_38), .val (.ref b0_51), .val (.ref b0_64), .unset] [(.int z)]) ((if_pos hc35).trans (if_neg hc36)) k)
    · skip
      refine XS.ifYes X28.here hx rfl (pc0 := 81) (pc' := 109) rfl (hb hby at_81) rfl ((if0 _ _).trans (feq ((fun q => hc35 ((lw_eq (f1 p4 (0 : Int32) q0) (0 : Int64)).mp q)))).2) (by decide) (by decide) ?_
      show Steps p.tables e below (T28.setTop (mkF m 109 (la0_7 q0 q1 q2 q3 p4 b0_38 b0_51 b0_64) [])) t
      refine SGo.go (T' := T28) (g' := (mkF m 110 (la0_7 q0 q1 q2 q3 p4 b0_38 b0_51 b0_64) [(.int (0 : Int32))])) (fun t k => ?_) ?_
      · show Steps p.tables e below (T28.setTop (mkF m 109 (la0_7 q0 q1 q2 q3 p4 b0_38 b0_51 b0_64) [])) t
        refine XS.iconst X28.here hx rfl (hb hby at_109) ?_
        show Steps p.tables e below (T28.setTop (mkF m 110 (la0_7 q0 q1 q2 q3 p4 b0_38 b0_51 b0_64) [(.int (0 : Int32))])) t
        exact k
      exact (own_k (f := fun (z : Int32) => mkF m 110 #[.val (.long q0), .second, .val (.long q1), .second, .val (.long q2), .second, .val (.long q3), .second, .val (.int p4), .val (.long (f1 p4 (0 : Int32) q0)), .second, .val (.long (f1 p4 (1 : Int32) q1)), .second, .val (.long (f1 p4 (2 : Int32) q2)), .second, .val (.long (f1 p4 (3 : Int32) q3)), .second, .val (.ref b0_38), .val (.ref b0_51), .val (.ref b0_64), .unset] [(.int z)]) (if_neg hc35) k)
  refine OEndW.go (T' := T28) (g' := (mkF m 114 (la0_8 q0 q1 q2 q3 p4 b0_38 b0_51 b0_64) [(.ref b0_64)])) (fun t k => ?_) ?_
  · show Steps p.tables e below (T28.setTop (mkF m 110 (la0_7 q0 q1 q2 q3 p4 b0_38 b0_51 b0_64) [(.int (if (f1 p4 (0 : Int32) q0) = (0 : Int64) then (if (f1 p4 (1 : Int32) q1) = (0 : Int64) then (if (f1 p4 (2 : Int32) q2) = (0 : Int64) then (if (f1 p4 (3 : Int32) q3) = (0 : Int64) then (1 : Int32) else (0 : Int32)) else (0 : Int32)) else (0 : Int32)) else (0 : Int32)))])) t
    refine XS.istore X28.here hx rfl (hb hby at_110) rfl (l' := (la0_8 q0 q1 q2 q3 p4 b0_38 b0_51 b0_64)) rfl ?_
    show Steps p.tables e below (T28.setTop (mkF m 112 (la0_8 q0 q1 q2 q3 p4 b0_38 b0_51 b0_64) [])) t
    refine XS.aload X28.here hx rfl (hb hby at_112) rfl rfl ?_
    show Steps p.tables e below (T28.setTop (mkF m 114 (la0_8 q0 q1 q2 q3 p4 b0_38 b0_51 b0_64) [(.ref b0_64)])) t
    exact k
  obtain ⟨cq39, kq39, q39a, q39b, q39c⟩ := isOf hZ rfl u28_1
  obtain ⟨_, _, ⟨T39, L39, k39, n39⟩, -, X39, ⟨Lc39, hQ39, l39, y39, z39⟩, st39⟩ := X28.virtualBack hx (y := (⟨"com/example/vestledger/vestledger/ledger/Suspense", "isEmpty", "()Z"⟩ : MethodName)) (z := (⟨"com/example/vestledger/vestledger/ledger/Suspense", "isEmpty", "()Z"⟩ : MethodName)) hown (mvT hZ (hw _ (List.mem_of_getElem? (i := 46) rfl))) (mvT hZ (hw _ (List.mem_of_getElem? (i := 47) rfl))) (notFace_of_selects (args := #[]) (mvT hZ (hw _ (List.mem_of_getElem? (i := 49) rfl)))) (mvT hZ (hw _ (List.mem_of_getElem? (i := 49) rfl))) (mvT hZ (hw _ (List.mem_of_getElem? (i := 48) rfl))) (by decide) (backOf (W := 0) (rm7 l Z aZ hw [] b0_64 b0_38 b0_51 (f1 p4 (0 : Int32) q0) (f1 p4 (1 : Int32) q1) (f1 p4 (2 : Int32) q2) (f1 p4 (3 : Int32) q3) T28.heap n0 Z28 u28_2 u28_3 fc29 fc32 fc30 fc31 fc33 fc34) hZ (hw _ (List.mem_of_getElem? (i := 50) rfl)) (hw _ (List.mem_of_getElem? (i := 24) rfl)) (by decide) (by decide)) q39a q39c (g := (mkF m 114 (la0_8 q0 q1 q2 q3 p4 b0_38 b0_51 b0_64) [(.ref b0_64)])) rfl (by rw [hml]; rfl) (Steps.refl _) (argsL := []) (rest := []) (lenOf pd___Z rfl) rfl (by show 2 * 0 + _ ≤ _; exact Nat.le_of_eq rfl) (hb hby at_114) (fun _ _ => ⟨rfl, rfl, (by decide : 7 + 0 ≤ _), (by decide : 62 + 0 ≤ _)⟩)
  dsimp only [Pt.U, Pt.locs, Pt.cells, Pt.slots] at X39 l39 y39 z39 st39 hQ39
  subst l39 y39 z39
  obtain ⟨rfl, N39q, e39⟩ := hQ39
  have N39 := Fr.app N28 N39q
  refine OEndW.go (g' := (mkF m 117 (la0_8 q0 q1 q2 q3 p4 b0_38 b0_51 b0_64) [(.int (f7 (f1 p4 (0 : Int32) q0) (f1 p4 (1 : Int32) q1) (f1 p4 (2 : Int32) q2) (f1 p4 (3 : Int32) q3)))])) (fun _ k => st39.trans k) ?_
  refine OEndW.go (T' := T39) (g' := (mkF m 119 (la0_8 q0 q1 q2 q3 p4 b0_38 b0_51 b0_64) [(.int (v0_110 q0 q1 q2 q3 p4)), (.int (f7 (f1 p4 (0 : Int32) q0) (f1 p4 (1 : Int32) q1) (f1 p4 (2 : Int32) q2) (f1 p4 (3 : Int32) q3)))])) (fun t k => ?_) ?_
  · show Steps p.tables e below (T39.setTop (mkF m 117 (la0_8 q0 q1 q2 q3 p4 b0_38 b0_51 b0_64) [(.int (f7 (f1 p4 (0 : Int32) q0) (f1 p4 (1 : Int32) q1) (f1 p4 (2 : Int32) q2) (f1 p4 (3 : Int32) q3)))])) t
    refine XS.iload X39.here hx rfl (hb hby at_117) rfl ?_
    show Steps p.tables e below (T39.setTop (mkF m 119 (la0_8 q0 q1 q2 q3 p4 b0_38 b0_51 b0_64) [(.int (v0_110 q0 q1 q2 q3 p4)), (.int (f7 (f1 p4 (0 : Int32) q0) (f1 p4 (1 : Int32) q1) (f1 p4 (2 : Int32) q2) (f1 p4 (3 : Int32) q3)))])) t
    exact k
  refine OEndW.go (T' := T39) (g' := (mkF m 127 (la0_8 q0 q1 q2 q3 p4 b0_38 b0_51 b0_64) [(.int (if (f7 (f1 p4 (0 : Int32) q0) (f1 p4 (1 : Int32) q1) (f1 p4 (2 : Int32) q2) (f1 p4 (3 : Int32) q3)) = (v0_110 q0 q1 q2 q3 p4) then (1 : Int32) else (0 : Int32)))])) (fun t k => ?_) ?_
  · show Steps p.tables e below (T39.setTop (mkF m 119 (la0_8 q0 q1 q2 q3 p4 b0_38 b0_51 b0_64) [(.int (v0_110 q0 q1 q2 q3 p4)), (.int (f7 (f1 p4 (0 : Int32) q0) (f1 p4 (1 : Int32) q1) (f1 p4 (2 : Int32) q2) (f1 p4 (3 : Int32) q3)))])) t
    by_cases hc40 : (f7 (f1 p4 (0 : Int32) q0) (f1 p4 (1 : Int32) q1) (f1 p4 (2 : Int32) q2) (f1 p4 (3 : Int32) q3)) = (v0_110 q0 q1 q2 q3 p4)
    · skip
      refine XS.icmpNo X39.here hx rfl (hb hby at_119) rfl (teq (hc40)).2 ?_
      show Steps p.tables e below (T39.setTop (mkF m 122 (la0_8 q0 q1 q2 q3 p4 b0_38 b0_51 b0_64) [])) t
      refine SGo.go (T' := T39) (g' := (mkF m 127 (la0_8 q0 q1 q2 q3 p4 b0_38 b0_51 b0_64) [(.int (1 : Int32))])) (fun t k => ?_) ?_
      · show Steps p.tables e below (T39.setTop (mkF m 122 (la0_8 q0 q1 q2 q3 p4 b0_38 b0_51 b0_64) [])) t
        refine XS.iconst X39.here hx rfl (hb hby at_122) ?_
        show Steps p.tables e below (T39.setTop (mkF m 123 (la0_8 q0 q1 q2 q3 p4 b0_38 b0_51 b0_64) [(.int (1 : Int32))])) t
        refine XS.goto X39.here hx rfl (pc0 := 123) (pc' := 127) rfl (hb hby at_123) (by decide) (by decide) ?_
        show Steps p.tables e below (T39.setTop (mkF m 127 (la0_8 q0 q1 q2 q3 p4 b0_38 b0_51 b0_64) [(.int (1 : Int32))])) t
        exact k
      exact (own_k (f := fun (z : Int32) => mkF m 127 #[.val (.long q0), .second, .val (.long q1), .second, .val (.long q2), .second, .val (.long q3), .second, .val (.int p4), .val (.long (f1 p4 (0 : Int32) q0)), .second, .val (.long (f1 p4 (1 : Int32) q1)), .second, .val (.long (f1 p4 (2 : Int32) q2)), .second, .val (.long (f1 p4 (3 : Int32) q3)), .second, .val (.ref b0_38), .val (.ref b0_51), .val (.ref b0_64), .val (.int (v0_110 q0 q1 q2 q3 p4))] [(.int z)]) (if_pos hc40) k)
    · skip
      refine XS.icmpYes X39.here hx rfl (pc0 := 119) (pc' := 126) rfl (hb hby at_119) rfl (feq (hc40)).2 (by decide) (by decide) ?_
      show Steps p.tables e below (T39.setTop (mkF m 126 (la0_8 q0 q1 q2 q3 p4 b0_38 b0_51 b0_64) [])) t
      refine SGo.go (T' := T39) (g' := (mkF m 127 (la0_8 q0 q1 q2 q3 p4 b0_38 b0_51 b0_64) [(.int (0 : Int32))])) (fun t k => ?_) ?_
      · show Steps p.tables e below (T39.setTop (mkF m 126 (la0_8 q0 q1 q2 q3 p4 b0_38 b0_51 b0_64) [])) t
        refine XS.iconst X39.here hx rfl (hb hby at_126) ?_
        show Steps p.tables e below (T39.setTop (mkF m 127 (la0_8 q0 q1 q2 q3 p4 b0_38 b0_51 b0_64) [(.int (0 : Int32))])) t
        exact k
      exact (own_k (f := fun (z : Int32) => mkF m 127 #[.val (.long q0), .second, .val (.long q1), .second, .val (.long q2), .second, .val (.long q3), .second, .val (.int p4), .val (.long (f1 p4 (0 : Int32) q0)), .second, .val (.long (f1 p4 (1 : Int32) q1)), .second, .val (.long (f1 p4 (2 : Int32) q2)), .second, .val (.long (f1 p4 (3 : Int32) q3)), .second, .val (.ref b0_38), .val (.ref b0_51), .val (.ref b0_64), .val (.int (v0_110 q0 q1 q2 q3 p4))] [(.int z)]) (if_neg hc40) k)
  exact OEndW.nar X39 hS28 (by rw [e39]; exact (Nat.le_refl _)) hx (t := .boolean) Bd.returns (by simp) hlk (hb hby at_127) ⟨(congrArg (fun z => some (Value.int (nar .boolean z))) (own_plain q0 q1 q2 q3 p4)), N39⟩ (by decide) (by decide)
set_option maxRecDepth 65536 in
set_option maxHeartbeats 40000000 in
theorem comes_1 {Post : Tables → Env → Array Value → State → Outcome → State → Prop} (hpost : ∀ tb e args s v u, (limb_1_1.after args s (.returned v) u = true ∧ limb_1_2.after args s (.returned v) u = true ∧ True) → ReturnedEndW s (.returned v) u (Jvm.fieldLocs frame_1_writes args s ++ Jvm.arrayLocs frame_1_arrays args s ++ Jvm.staticLocs frame_1_statics s) 24 2176 → Post tb e args s (.returned v) u) :
    ArmFor flags0 classFile x code maxLocals ret World_1 tables_1 room_1 Calls_1 rest_1 Pre_1 Post := by
  intro l hfl _ _ p e ha hc hk s m args below hf hA hF happ hP
  obtain ⟨hcalls, hrest, hpre⟩ := hP
  obtain ⟨-, -, -, hnamed, -, -, -, hat⟩ := (Spec.applies_iff hf).mp happ
  obtain ⟨hg, hn⟩ := and_e (Cond.before_iff.mp (show (Jvm.Cond.and given_1 narrow_1).before args s = true from hpre))
  obtain ⟨c1, c2⟩ := and_e hg
  obtain ⟨c3, c4⟩ := and_e c2
  obtain ⟨c5, c6⟩ := and_e c4
  obtain ⟨c7, c8⟩ := and_e c6
  obtain ⟨c9, c10⟩ := and_e c8
  obtain ⟨w0, w1, w2, w3, w4, rfl⟩ : ∃ w0 w1 w2 w3 w4 : Value, args = #[w0, w1, w2, w3, w4] := by
    have hs : args.size = 5 := by simpa [Cond.value, given_1] using c1
    obtain ⟨L⟩ := args
    match L, hs with
    | [w0, w1, w2, w3, w4], _ => exact ⟨w0, w1, w2, w3, w4, rfl⟩
  have hw := fun d (hd : d ∈ tables_1) => atoms_spec (ws := Jvm.Cond.code x code maxLocals ret :: tables_1) hat d (List.mem_cons_of_mem _ hd)
  obtain ⟨i0, ei0⟩ := isL_v c3
  obtain rfl : w0 = (.long i0) := Option.some.inj ei0
  obtain ⟨i1, ei1⟩ := isL_v c5
  obtain rfl : w1 = (.long i1) := Option.some.inj ei1
  obtain ⟨i2, ei2⟩ := isL_v c7
  obtain rfl : w2 = (.long i2) := Option.some.inj ei2
  obtain ⟨i3, ei3⟩ := isL_v c9
  obtain rfl : w3 = (.long i3) := Option.some.inj ei3
  obtain ⟨i4, ei4⟩ := is_v c10
  obtain rfl : w4 = (.int i4) := Option.some.inj ei4
  obtain ⟨n, o, h1, h2, h3, _, L, rfl, ⟨rfl, N⟩, hq⟩ := rm0 l s _ hw tables_1 i0 i1 i2 i3 i4 s.heap s.heap.size (Nat.le_refl _)  p e ha hc hk s m _ below hf ((Spec.applies_iff_loose hf).mp happ).1 ⟨rfl, State.Warmed39.refl s, rfl⟩ trivial
  refine ⟨n, _, h1, h2, h3, hpost _ _ _ _ _ _ ⟨Cond.after_iff.mpr rfl, Cond.after_iff.mpr (eq_i res_at (Term.int_eval (1)) rfl), trivial⟩ ⟨hq.1, hq.2.1, hq.2.2.1, (hq.2.2.2.sift fun y hy => Or.inr (N y hy)).mono (by decide) (by decide)⟩⟩
theorem main_1_1 : Claimed_1_1 := comes_1 fun _ _ _ _ _ _ h hF => ⟨h.1, hF⟩
theorem main_1_2 : Claimed_1_2 := comes_1 fun _ _ _ _ _ _ h hF => ⟨h.2.1, hF⟩
end Jvm.Pilot.@@N@@
namespace Jvm.Pilot.@@N@@
open Jvm Jvm.ClassFile Sem Op Lib Jvm.Free Jvm.Stand Jvm.Pilot.@@N@@.Jvm.D
/-! MADE BY PROGRAM (witnessworld.py) out of the Statement's table words and the real class files: 17 classes; the members and pool entries that the words name. The judged class is class 1, her method 2. -/
namespace start1
open Jvm.ClassFile
def u (s : String) : CpInfo := .utf8 (stringToUtf16 s)
/-- a pool by its gaps: so many unusable entries, then the entry; so many at the end -/
def gap : Nat → List CpInfo → List CpInfo
  | 0, r => r
  | n + 1, r => .unusable :: gap n r
def poolList (es : List (Nat × CpInfo)) (last : Nat) : List CpInfo := es.foldr (fun e r => gap e.1 (e.2 :: r)) (gap last [])
def pool (es : List (Nat × CpInfo)) (last : Nat) : Array CpInfo := ⟨poolList es last⟩
def fileOf (pool : Array CpInfo) (this : Nat) (attrs : Array Attribute := #[]) (ms : Array MethodInfo := #[]) (fl : Nat := 33) (sup : Nat := 0) (ifs : Array Nat := #[]) (fds : Array FieldInfo := #[]) : ClassFile where
  minorVersion := 0
  majorVersion := 65
  constantPool := pool
  accessFlags := fl
  thisClass := this
  superClass := sup
  interfaces := ifs
  fields := fds
  methods := ms
  attributes := attrs
def plain (name : String) (sup : Option ClassId) : Class where
  name := name
  kind := .ordinary
  loader := none
  accessFlags := 33
  super := sup
  interfaces := #[]
  cf := none
  fields := #[]
  methods := #[]
  instanceTypes := #[]
  staticTypes := #[]
  resolved := #[]
  callSites := []
  init := .initialized
  statics := none
  mirror := none

def pool0 : Array CpInfo := pool [(5, u "<init>"), (0, u "()V"), (1, .class_ 10), (1, u "java/lang/Object")] 113

def k0c0 : Code := { maxStack := 0, maxLocals := 1, code := object_method_1_code, exceptionTable := #[], attributes := #[] }
def k0m0 : Method := { name := "<init>", desc := "()V", sig := { parameters := [], returnType := none }, accessFlags := 1, code := some k0c0 }
/-- java/lang/Object -/
def k0 : Class := { plain "java/lang/Object" none with
  accessFlags := 33
  interfaces := #[]
  cf := some (fileOf pool0 8 #[] #[{ accessFlags := 1, nameIndex := 5, descriptorIndex := 6, attributes := #[] }] 33 0 #[] #[])
  fields := #[]
  methods := #[k0m0]
  instanceTypes := #[]
  staticTypes := #[]
  resolved := Array.replicate 124 none
  statics := none }

def pool1 : Array CpInfo := pool [(2, .class_ 4), (1, u "java/lang/Object"), (0, u "<init>"), (0, u "()V"), (0, .methodref 8 9), (0, .class_ 10), (0, .nameAndType 11 12), (0, u "com/example/vestledger/vestledger/ledger/SuspenseIsEmptyPinLaw"), (0, u "pick"), (0, u "(IIJ)J"), (0, .class_ 14), (0, u "com/example/vestledger/vestledger/rules/Balance"), (0, .methodref 13 16), (0, .nameAndType 5 17), (0, u "(JJ)V"), (0, .class_ 19), (0, u "com/example/vestledger/vestledger/ledger/Suspense"), (0, .methodref 18 21), (0, .nameAndType 5 22), (0, u "(Lcom/example/vestledger/vestledger/rules/Balance;Lcom/example/vestledger/vestledger/rules/Balance;)V"), (0, .methodref 18 24), (0, .nameAndType 25 26), (0, u "isEmpty"), (0, u "()Z"), (3, u "law"), (0, u "(JJJJI)Z")] 2

def k1m0 : Method := { name := "<init>", desc := "()V", sig := { parameters := [], returnType := none }, accessFlags := 1, code := none }
def k1c1 : Code := { maxStack := 2, maxLocals := 4, code := method_2_code, exceptionTable := #[], attributes := #[] }
def k1m1 : Method := { name := "pick", desc := "(IIJ)J", sig := { parameters := [.int, .int, .long], returnType := some .long }, accessFlags := 10, code := some k1c1 }
def k1c2 : Code := { maxStack := 6, maxLocals := 21, code := code, exceptionTable := #[], attributes := #[] }
def k1m2 : Method := { name := "law", desc := "(JJJJI)Z", sig := { parameters := [.long, .long, .long, .long, .int], returnType := some .boolean }, accessFlags := 9, code := some k1c2 }
/-- com/example/vestledger/vestledger/ledger/SuspenseIsEmptyPinLaw -/
def k1 : Class := { plain "com/example/vestledger/vestledger/ledger/SuspenseIsEmptyPinLaw" (some 0) with
  accessFlags := 49
  interfaces := #[]
  cf := some (fileOf pool1 8 #[] #[{ accessFlags := 1, nameIndex := 5, descriptorIndex := 6, attributes := #[] }, { accessFlags := 10, nameIndex := 11, descriptorIndex := 12, attributes := #[] }, { accessFlags := 9, nameIndex := 30, descriptorIndex := 31, attributes := #[] }] 49 2 #[] #[])
  fields := #[]
  methods := #[k1m0, k1m1, k1m2]
  instanceTypes := #[]
  staticTypes := #[]
  resolved := Array.replicate 34 none
  statics := none }

def pool2 : Array CpInfo := pool [(1, .methodref 2 3), (0, .class_ 4), (0, .nameAndType 5 6), (0, u "java/lang/Object"), (0, u "<init>"), (0, u "()V"), (0, .class_ 8), (0, u "java/lang/Record")] 13

def k2c0 : Code := { maxStack := 1, maxLocals := 1, code := jdk_30_method_1_code, exceptionTable := #[], attributes := #[] }
def k2m0 : Method := { name := "<init>", desc := "()V", sig := { parameters := [], returnType := none }, accessFlags := 4, code := some k2c0 }
/-- java/lang/Record -/
def k2 : Class := { plain "java/lang/Record" (some 0) with
  accessFlags := 1057
  interfaces := #[]
  cf := some (fileOf pool2 7 #[] #[{ accessFlags := 4, nameIndex := 5, descriptorIndex := 6, attributes := #[] }] 1057 2 #[] #[])
  fields := #[]
  methods := #[k2m0]
  instanceTypes := #[]
  staticTypes := #[]
  resolved := Array.replicate 22 none
  statics := none }

def pool3 : Array CpInfo := pool [(1, .methodref 2 3), (0, .class_ 4), (0, .nameAndType 5 6), (0, u "java/lang/Record"), (0, u "<init>"), (0, u "()V"), (0, .fieldref 8 9), (0, .class_ 10), (0, .nameAndType 11 12), (0, u "com/example/vestledger/vestledger/rules/Balance"), (0, u "cashCents"), (0, u "J"), (0, .fieldref 8 14), (0, .nameAndType 15 12), (0, u "shareUnits"), (8, u "(JJ)V"), (78, u "ZERO"), (0, u "Lcom/example/vestledger/vestledger/rules/Balance;"), (0, u "UNITS_PER_SHARE"), (1, u "SHARE_DECIMALS"), (0, u "I"), (1, u "PERCENT_DECIMALS"), (1, u "FULLY_VESTED"), (8, u "isZero"), (0, u "()Z")] 37

def k3c0 : Code := { maxStack := 3, maxLocals := 5, code := prog_86_method_1_code, exceptionTable := #[], attributes := #[] }
def k3m0 : Method := { name := "<init>", desc := "(JJ)V", sig := { parameters := [.long, .long], returnType := none }, accessFlags := 1, code := some k3c0 }
def k3c1 : Code := { maxStack := 4, maxLocals := 1, code := prog_86_method_4_code, exceptionTable := #[], attributes := #[] }
def k3m1 : Method := { name := "isZero", desc := "()Z", sig := { parameters := [], returnType := some .boolean }, accessFlags := 1, code := some k3c1 }
/-- com/example/vestledger/vestledger/rules/Balance -/
def k3 : Class := { plain "com/example/vestledger/vestledger/rules/Balance" (some 2) with
  accessFlags := 49
  interfaces := #[]
  cf := some (fileOf pool3 8 #[] #[{ accessFlags := 1, nameIndex := 5, descriptorIndex := 24, attributes := #[] }, { accessFlags := 1, nameIndex := 121, descriptorIndex := 122, attributes := #[] }] 49 2 #[] #[{ accessFlags := 18, nameIndex := 11, descriptorIndex := 12, attributes := #[] }, { accessFlags := 18, nameIndex := 15, descriptorIndex := 12, attributes := #[] }, { accessFlags := 25, nameIndex := 103, descriptorIndex := 104, attributes := #[] }, { accessFlags := 25, nameIndex := 105, descriptorIndex := 12, attributes := #[] }, { accessFlags := 26, nameIndex := 107, descriptorIndex := 108, attributes := #[] }, { accessFlags := 26, nameIndex := 110, descriptorIndex := 108, attributes := #[] }, { accessFlags := 26, nameIndex := 112, descriptorIndex := 108, attributes := #[] }])
  fields := #[{ name := "cashCents", type := .long, accessFlags := 18, slot := 0, constantValue := 0 }, { name := "shareUnits", type := .long, accessFlags := 18, slot := 1, constantValue := 0 }, { name := "ZERO", type := (.object "com/example/vestledger/vestledger/rules/Balance"), accessFlags := 25, slot := 0, constantValue := 0 }, { name := "UNITS_PER_SHARE", type := .long, accessFlags := 25, slot := 1, constantValue := 0 }, { name := "SHARE_DECIMALS", type := .int, accessFlags := 26, slot := 2, constantValue := 0 }, { name := "PERCENT_DECIMALS", type := .int, accessFlags := 26, slot := 3, constantValue := 0 }, { name := "FULLY_VESTED", type := .int, accessFlags := 26, slot := 4, constantValue := 0 }]
  methods := #[k3m0, k3m1]
  instanceTypes := #[.long, .long]
  staticTypes := #[(.object "com/example/vestledger/vestledger/rules/Balance"), .long, .int, .int, .int]
  resolved := Array.replicate 160 none
  statics := none }

def pool4 : Array CpInfo := pool [(1, .methodref 2 3), (0, .class_ 4), (0, .nameAndType 5 6), (0, u "java/lang/Record"), (0, u "<init>"), (0, u "()V"), (0, .string 8), (0, u "released"), (0, .methodref 10 11), (0, .class_ 12), (0, .nameAndType 13 14), (0, u "java/util/Objects"), (0, u "requireNonNull"), (0, u "(Ljava/lang/Object;Ljava/lang/String;)Ljava/lang/Object;"), (0, .string 16), (0, u "held"), (0, .fieldref 18 19), (0, .class_ 20), (0, .nameAndType 8 21), (0, u "com/example/vestledger/vestledger/ledger/Suspense"), (0, u "Lcom/example/vestledger/vestledger/rules/Balance;"), (0, .fieldref 18 23), (0, .nameAndType 16 21), (0, .methodref 25 26), (0, .class_ 27), (0, .nameAndType 28 29), (0, u "com/example/vestledger/vestledger/rules/Balance"), (0, u "isZero"), (0, u "()Z"), (17, u "(Lcom/example/vestledger/vestledger/rules/Balance;Lcom/example/vestledger/vestledger/rules/Balance;)V"), (2, u "EMPTY"), (0, u "Lcom/example/vestledger/vestledger/ledger/Suspense;"), (3, u "isEmpty")] 27

def k4c0 : Code := { maxStack := 2, maxLocals := 3, code := prog_69_method_1_code, exceptionTable := #[], attributes := #[] }
def k4m0 : Method := { name := "<init>", desc := "(Lcom/example/vestledger/vestledger/rules/Balance;Lcom/example/vestledger/vestledger/rules/Balance;)V", sig := { parameters := [(.object "com/example/vestledger/vestledger/rules/Balance"), (.object "com/example/vestledger/vestledger/rules/Balance")], returnType := none }, accessFlags := 1, code := some k4c0 }
def k4c1 : Code := { maxStack := 1, maxLocals := 1, code := prog_69_method_2_code, exceptionTable := #[], attributes := #[] }
def k4m1 : Method := { name := "isEmpty", desc := "()Z", sig := { parameters := [], returnType := some .boolean }, accessFlags := 1, code := some k4c1 }
/-- com/example/vestledger/vestledger/ledger/Suspense -/
def k4 : Class := { plain "com/example/vestledger/vestledger/ledger/Suspense" (some 2) with
  accessFlags := 49
  interfaces := #[]
  cf := some (fileOf pool4 18 #[] #[{ accessFlags := 1, nameIndex := 5, descriptorIndex := 47, attributes := #[] }, { accessFlags := 1, nameIndex := 55, descriptorIndex := 29, attributes := #[] }] 49 2 #[] #[{ accessFlags := 18, nameIndex := 8, descriptorIndex := 21, attributes := #[] }, { accessFlags := 18, nameIndex := 16, descriptorIndex := 21, attributes := #[] }, { accessFlags := 25, nameIndex := 50, descriptorIndex := 51, attributes := #[] }])
  fields := #[{ name := "released", type := (.object "com/example/vestledger/vestledger/rules/Balance"), accessFlags := 18, slot := 0, constantValue := 0 }, { name := "held", type := (.object "com/example/vestledger/vestledger/rules/Balance"), accessFlags := 18, slot := 1, constantValue := 0 }, { name := "EMPTY", type := (.object "com/example/vestledger/vestledger/ledger/Suspense"), accessFlags := 25, slot := 0, constantValue := 0 }]
  methods := #[k4m0, k4m1]
  instanceTypes := #[(.object "com/example/vestledger/vestledger/rules/Balance"), (.object "com/example/vestledger/vestledger/rules/Balance")]
  staticTypes := #[(.object "com/example/vestledger/vestledger/ledger/Suspense")]
  resolved := Array.replicate 83 none
  statics := none }

def pool5 : Array CpInfo := pool [(1, .class_ 2), (0, u "java/io/Serializable"), (0, .class_ 4), (0, u "java/lang/Object")] 2

/-- java/io/Serializable -/
def k5 : Class := { plain "java/io/Serializable" (some 0) with
  accessFlags := 1537
  interfaces := #[]
  cf := some (fileOf pool5 1 #[] #[] 1537 3 #[] #[])
  fields := #[]
  methods := #[]
  instanceTypes := #[]
  staticTypes := #[]
  resolved := Array.replicate 7 none
  statics := none }

def pool6 : Array CpInfo := pool [(1, .class_ 2), (0, u "java/lang/Comparable"), (0, .class_ 4), (0, u "java/lang/Object")] 7

/-- java/lang/Comparable -/
def k6 : Class := { plain "java/lang/Comparable" (some 0) with
  accessFlags := 1537
  interfaces := #[]
  cf := some (fileOf pool6 1 #[] #[] 1537 3 #[] #[])
  fields := #[]
  methods := #[]
  instanceTypes := #[]
  staticTypes := #[]
  resolved := Array.replicate 12 none
  statics := none }

def pool7 : Array CpInfo := pool [(2, .class_ 4), (1, u "java/lang/CharSequence"), (42, .class_ 48), (0, u "java/lang/CharSequence$1CodePointIterator"), (10, .class_ 60), (0, u "java/lang/CharSequence$1CharIterator"), (5, .class_ 67), (0, u "java/lang/Object")] 63

/-- java/lang/CharSequence -/
def k7 : Class := { plain "java/lang/CharSequence" (some 0) with
  accessFlags := 1537
  interfaces := #[]
  cf := some (fileOf pool7 2 #[.nestMembers #[47, 59]] #[] 1537 66 #[] #[])
  fields := #[]
  methods := #[]
  instanceTypes := #[]
  staticTypes := #[]
  resolved := Array.replicate 131 none
  statics := none }

def pool8 : Array CpInfo := pool [(1, .class_ 2), (0, u "java/lang/constant/Constable"), (0, .class_ 4), (0, u "java/lang/Object")] 6

/-- java/lang/constant/Constable -/
def k8 : Class := { plain "java/lang/constant/Constable" (some 0) with
  accessFlags := 1537
  interfaces := #[]
  cf := some (fileOf pool8 1 #[] #[] 1537 3 #[] #[])
  fields := #[]
  methods := #[]
  instanceTypes := #[]
  staticTypes := #[]
  resolved := Array.replicate 11 none
  statics := none }

def pool9 : Array CpInfo := pool [(1, .class_ 2), (0, u "java/lang/constant/ConstantDesc"), (0, .class_ 4), (0, u "java/lang/Object")] 32

/-- java/lang/constant/ConstantDesc -/
def k9 : Class := { plain "java/lang/constant/ConstantDesc" (some 0) with
  accessFlags := 1537
  interfaces := #[]
  cf := some (fileOf pool9 1 #[] #[] 1537 3 #[] #[])
  fields := #[]
  methods := #[]
  instanceTypes := #[]
  staticTypes := #[]
  resolved := Array.replicate 37 none
  statics := none }

def pool10 : Array CpInfo := pool [(2, .class_ 4), (1, u "java/lang/Object"), (0, u "<init>"), (0, u "()V"), (3, .class_ 12), (1, u "java/lang/String"), (0, u "value"), (0, u "[B"), (2, u "coder"), (0, u "B"), (2, u "hash"), (0, u "I"), (2, u "hashIsZero"), (0, u "Z"), (13, u "COMPACT_STRINGS"), (534, .class_ 576), (0, u "java/lang/CharSequence"), (22, u "CASE_INSENSITIVE_ORDER"), (0, u "Ljava/util/Comparator;"), (500, u "serialPersistentFields"), (0, u "[Ljava/io/ObjectStreamField;"), (0, .class_ 1104), (0, u "java/lang/String$CaseInsensitiveComparator"), (1, .class_ 1107), (0, u "java/io/Serializable"), (0, .class_ 1109), (0, u "java/lang/Comparable"), (0, .class_ 1111), (0, u "java/lang/constant/Constable"), (0, .class_ 1113), (0, u "java/lang/constant/ConstantDesc"), (2, u "serialVersionUID"), (0, u "J"), (3, u "REPL"), (0, u "C"), (2, u "LATIN1"), (1, u "UTF16")] 323

def k10m0 : Method := { name := "<init>", desc := "()V", sig := { parameters := [], returnType := none }, accessFlags := 1, code := none }
/-- java/lang/String -/
def k10 : Class := { plain "java/lang/String" (some 0) with
  accessFlags := 49
  interfaces := #[5, 6, 7, 8, 9]
  cf := some (fileOf pool10 10 #[.nestMembers #[1103]] #[{ accessFlags := 1, nameIndex := 5, descriptorIndex := 6, attributes := #[] }] 49 2 #[1106, 1108, 575, 1110, 1112] #[{ accessFlags := 18, nameIndex := 13, descriptorIndex := 14, attributes := #[] }, { accessFlags := 18, nameIndex := 17, descriptorIndex := 18, attributes := #[] }, { accessFlags := 2, nameIndex := 21, descriptorIndex := 22, attributes := #[] }, { accessFlags := 2, nameIndex := 25, descriptorIndex := 26, attributes := #[] }, { accessFlags := 26, nameIndex := 1116, descriptorIndex := 1117, attributes := #[] }, { accessFlags := 24, nameIndex := 40, descriptorIndex := 26, attributes := #[] }, { accessFlags := 26, nameIndex := 1101, descriptorIndex := 1102, attributes := #[] }, { accessFlags := 26, nameIndex := 1121, descriptorIndex := 1122, attributes := #[] }, { accessFlags := 25, nameIndex := 599, descriptorIndex := 600, attributes := #[] }, { accessFlags := 24, nameIndex := 1125, descriptorIndex := 18, attributes := #[] }, { accessFlags := 24, nameIndex := 1127, descriptorIndex := 18, attributes := #[] }])
  fields := #[{ name := "value", type := (.array .byte), accessFlags := 18, slot := 0, constantValue := 0 }, { name := "coder", type := .byte, accessFlags := 18, slot := 1, constantValue := 0 }, { name := "hash", type := .int, accessFlags := 2, slot := 2, constantValue := 0 }, { name := "hashIsZero", type := .boolean, accessFlags := 2, slot := 3, constantValue := 0 }, { name := "serialVersionUID", type := .long, accessFlags := 26, slot := 0, constantValue := 0 }, { name := "COMPACT_STRINGS", type := .boolean, accessFlags := 24, slot := 1, constantValue := 0 }, { name := "serialPersistentFields", type := (.array (.object "java/io/ObjectStreamField")), accessFlags := 26, slot := 2, constantValue := 0 }, { name := "REPL", type := .char, accessFlags := 26, slot := 3, constantValue := 0 }, { name := "CASE_INSENSITIVE_ORDER", type := (.object "java/util/Comparator"), accessFlags := 25, slot := 4, constantValue := 0 }, { name := "LATIN1", type := .byte, accessFlags := 24, slot := 5, constantValue := 0 }, { name := "UTF16", type := .byte, accessFlags := 24, slot := 6, constantValue := 0 }]
  methods := #[k10m0]
  instanceTypes := #[(.array .byte), .byte, .int, .boolean]
  staticTypes := #[.long, .boolean, (.array (.object "java/io/ObjectStreamField")), .char, (.object "java/util/Comparator"), .byte, .byte]
  resolved := Array.replicate 1451 none
  statics := none }

def pool11 : Array CpInfo := pool [(2, .class_ 4), (1, u "java/lang/Object"), (0, u "<init>"), (0, u "()V"), (35, .class_ 44), (1, u "java/util/Objects"), (0, u "requireNonNull"), (48, u "(Ljava/lang/Object;Ljava/lang/String;)Ljava/lang/Object;")] 89

def k11m0 : Method := { name := "<init>", desc := "()V", sig := { parameters := [], returnType := none }, accessFlags := 2, code := none }
def k11c1 : Code := { maxStack := 3, maxLocals := 2, code := jdk_31_method_11_code, exceptionTable := #[], attributes := #[] }
def k11m1 : Method := { name := "requireNonNull", desc := "(Ljava/lang/Object;Ljava/lang/String;)Ljava/lang/Object;", sig := { parameters := [(.object "java/lang/Object"), (.object "java/lang/String")], returnType := some (.object "java/lang/Object") }, accessFlags := 9, code := some k11c1 }
/-- java/util/Objects -/
def k11 : Class := { plain "java/util/Objects" (some 0) with
  accessFlags := 49
  interfaces := #[]
  cf := some (fileOf pool11 42 #[] #[{ accessFlags := 2, nameIndex := 5, descriptorIndex := 6, attributes := #[] }, { accessFlags := 9, nameIndex := 45, descriptorIndex := 94, attributes := #[] }] 49 2 #[] #[])
  fields := #[]
  methods := #[k11m0, k11m1]
  instanceTypes := #[]
  staticTypes := #[]
  resolved := Array.replicate 184 none
  statics := none }

def pool12 : Array CpInfo := pool [(1, u "java/lang/Cloneable"), (0, .class_ 1), (0, u "java/lang/Object"), (0, .class_ 3)] 3

/-- java/lang/Cloneable -/
def k12 : Class := { plain "java/lang/Cloneable" (some 0) with
  accessFlags := 1537
  interfaces := #[]
  cf := some (fileOf pool12 2 #[] #[] 1537 4 #[] #[])
  fields := #[]
  methods := #[]
  instanceTypes := #[]
  staticTypes := #[]
  resolved := Array.replicate 8 none
  statics := none }

/-- the primitive byte -/
def k13 : Class := { plain "byte" none with kind := .primitive 'B', accessFlags := 0x411 }
/-- [B -/
def k14 : Class := { plain "[B" (some 0) with kind := .array 13 .byte, interfaces := #[12, 5], accessFlags := 1041 }

/-- the primitive int -/
def k15 : Class := { plain "int" none with kind := .primitive 'I', accessFlags := 0x411 }
/-- [I -/
def k16 : Class := { plain "[I" (some 0) with kind := .array 15 .int, interfaces := #[12, 5], accessFlags := 1041 }

def heap : Heap := #[]
def classes : Array Class := #[k0, k1, k2, k3, k4, k5, k6, k7, k8, k9, k10, k11, k12, k13, k14, k15, k16]
def interned : List (Array UInt16 × Addr) := []
def slotsUsed : Nat := 0
def theMethod : MethodId := ⟨1, 2⟩
def args0 : Array Value := #[.long 3, .long 1000, .long 5, .long 7, .int 9]
def aboutOver (below : List Frame) : State where
  vm := { classes := classes, interned := interned.toArray }
  heap := heap
  slotsUsed := slotsUsed
  threads := #[{ frames := .invoking theMethod args0 :: below }]
def below0 : List Frame := [.native { method := ⟨0, 0⟩, args := #[] }]
def about1 : State := aboutOver below0
def p0 : Program := .bare "" "" ""
def e0 : Env := launch0.env 0 0 0
theorem w_frames : about1.frames = Frame.invoking theMethod args0 :: below0 := rfl
set_option maxRecDepth 65536 in
theorem w_args : argsFit about1.vm theMethod args0 = true := by decide +kernel
set_option maxRecDepth 65536 in
theorem w_heap : heapFits about1 = true := by decide +kernel
set_option maxRecDepth 65536 in
theorem w_runnable : about1.curStatus? = some .runnable := by decide +kernel
set_option maxRecDepth 65536 in
theorem w_alone : about1.alone = true := by decide +kernel
set_option maxRecDepth 65536 in
theorem w_named : about1.methodNamed? x = some theMethod := by decide +kernel
set_option maxRecDepth 65536 in
theorem w_hears : about1.hears theMethod below0 = true := by decide +kernel
set_option maxRecDepth 65536 in
theorem w_ripe : about1.ripe theMethod args0 below0 = true := by decide +kernel
theorem w_running : about1.status = .running := rfl
set_option maxRecDepth 65536 in
theorem w_room : about1.hasRoom e0.platform room_1 = true :=
  launch0.hasRoom_least _ room_1 (by decide +kernel) (by decide +kernel) (by decide +kernel) (by decide +kernel) (by decide +kernel) (by decide +kernel)
theorem allAtoms_all (ts : List Jvm.Cond) (a : Array Jvm.Value) (st : Jvm.State) : (allAtoms ts).before a st = ts.all (fun c => c.before a st) := by
  induction ts with
  | nil => rfl
  | cons c t ih =>
    show (Jvm.Cond.and c (allAtoms t)).before a st = _
    rw [Jvm.Cond.before_and, ih, List.all_cons]
def words1 : List Jvm.Cond := Jvm.Cond.code x code maxLocals ret :: tables_1
/-- a 'code' word, met by the world's own term for the bytes: nothing is compared byte by byte -/
theorem code_word {y : MethodName} {bytes : ByteArray} {mx : Nat} {rt : Option FieldType} {a : Array Value} {s : State} {m : MethodId} {meth : Method} {c : Code} (h1 : s.methodNamed? y = some m) (h2 : s.vm.method? m = some meth) (h3 : meth.code = some c) (h4 : c.code = bytes)
    (h5 : (c.maxLocals == mx && c.exceptionTable.isEmpty && decide (c.maxStack ≤ mostOperands) && decide (meth.sig.returnType = rt) && !meth.locks && decide (parseMethodDescriptor y.desc = some meth.sig)) = true) : (Jvm.Cond.code y bytes mx rt).before a s = true := by
  simp only [Bool.and_eq_true, beq_iff_eq, Bool.not_eq_true', decide_eq_true_eq] at h5
  obtain ⟨⟨⟨⟨⟨g1, g2⟩, g3⟩, g4⟩, g5⟩, g6⟩ := h5
  simp [Cond.before, Cond.holds, Cond.value, h1, h2, h3, h4, g1, g2, g3, g4, g5, g6]
def isCode : Jvm.Cond → Bool
  | .code _ _ _ _ => true
  | _ => false
theorem all_split {L : List Jvm.Cond} {P : Jvm.Cond → Bool} (h1 : L.all (fun c => isCode c || P c) = true) (h2 : ∀ c ∈ L.filter isCode, P c = true) : L.all P = true := by
  refine List.all_eq_true.mpr fun c hc => ?_
  have h := List.all_eq_true.mp h1 c hc
  rcases Bool.eq_false_or_eq_true (isCode c) with hi | hi
  · exact h2 c (List.mem_filter.mpr ⟨hc, hi⟩)
  · simpa [hi] using h
set_option maxRecDepth 65536 in
theorem w_c0 : (Jvm.Cond.code x code maxLocals ret).before args0 about1 = true := code_word (m := ⟨1, 2⟩) (meth := k1m2) (c := k1c2) (by decide +kernel) rfl rfl rfl (by decide +kernel)
set_option maxRecDepth 65536 in
theorem w_c1 : (Jvm.Cond.code ({ cls := "com/example/vestledger/vestledger/ledger/SuspenseIsEmptyPinLaw", name := "pick", desc := "(IIJ)J" } : Jvm.MethodName) method_2_code (4 : Nat) (Option.some Jvm.ClassFile.FieldType.long)).before args0 about1 = true := code_word (m := ⟨1, 1⟩) (meth := k1m1) (c := k1c1) (by decide +kernel) rfl rfl rfl (by decide +kernel)
set_option maxRecDepth 65536 in
theorem w_c2 : (Jvm.Cond.code ({ cls := "com/example/vestledger/vestledger/rules/Balance", name := "<init>", desc := "(JJ)V" } : Jvm.MethodName) prog_86_method_1_code (5 : Nat) (Option.none : Option Jvm.ClassFile.FieldType)).before args0 about1 = true := code_word (m := ⟨3, 0⟩) (meth := k3m0) (c := k3c0) (by decide +kernel) rfl rfl rfl (by decide +kernel)
set_option maxRecDepth 65536 in
theorem w_c3 : (Jvm.Cond.code ({ cls := "java/lang/Record", name := "<init>", desc := "()V" } : Jvm.MethodName) jdk_30_method_1_code (1 : Nat) (Option.none : Option Jvm.ClassFile.FieldType)).before args0 about1 = true := code_word (m := ⟨2, 0⟩) (meth := k2m0) (c := k2c0) (by decide +kernel) rfl rfl rfl (by decide +kernel)
set_option maxRecDepth 65536 in
theorem w_c4 : (Jvm.Cond.code ({ cls := "java/lang/Object", name := "<init>", desc := "()V" } : Jvm.MethodName) object_method_1_code (1 : Nat) (Option.none : Option Jvm.ClassFile.FieldType)).before args0 about1 = true := code_word (m := ⟨0, 0⟩) (meth := k0m0) (c := k0c0) (by decide +kernel) rfl rfl rfl (by decide +kernel)
set_option maxRecDepth 65536 in
theorem w_c5 : (Jvm.Cond.code ({ cls := "com/example/vestledger/vestledger/ledger/Suspense", name := "<init>", desc := "(Lcom/example/vestledger/vestledger/rules/Balance;Lcom/example/vestledger/vestledger/rules/Balance;)V" } : Jvm.MethodName) prog_69_method_1_code (3 : Nat) (Option.none : Option Jvm.ClassFile.FieldType)).before args0 about1 = true := code_word (m := ⟨4, 0⟩) (meth := k4m0) (c := k4c0) (by decide +kernel) rfl rfl rfl (by decide +kernel)
set_option maxRecDepth 65536 in
theorem w_c6 : (Jvm.Cond.code ({ cls := "java/util/Objects", name := "requireNonNull", desc := "(Ljava/lang/Object;Ljava/lang/String;)Ljava/lang/Object;" } : Jvm.MethodName) jdk_31_method_11_code (2 : Nat) (Option.some (Jvm.ClassFile.FieldType.object "java/lang/Object"))).before args0 about1 = true := code_word (m := ⟨11, 1⟩) (meth := k11m1) (c := k11c1) (by decide +kernel) rfl rfl rfl (by decide +kernel)
set_option maxRecDepth 65536 in
theorem w_c7 : (Jvm.Cond.code ({ cls := "com/example/vestledger/vestledger/ledger/Suspense", name := "isEmpty", desc := "()Z" } : Jvm.MethodName) prog_69_method_2_code (1 : Nat) (Option.some Jvm.ClassFile.FieldType.boolean)).before args0 about1 = true := code_word (m := ⟨4, 1⟩) (meth := k4m1) (c := k4c1) (by decide +kernel) rfl rfl rfl (by decide +kernel)
set_option maxRecDepth 65536 in
theorem w_c8 : (Jvm.Cond.code ({ cls := "com/example/vestledger/vestledger/rules/Balance", name := "isZero", desc := "()Z" } : Jvm.MethodName) prog_86_method_4_code (1 : Nat) (Option.some Jvm.ClassFile.FieldType.boolean)).before args0 about1 = true := code_word (m := ⟨3, 1⟩) (meth := k3m1) (c := k3c1) (by decide +kernel) rfl rfl rfl (by decide +kernel)
def codes1 : List Jvm.Cond := [Jvm.Cond.code x code maxLocals ret, Jvm.Cond.code ({ cls := "com/example/vestledger/vestledger/ledger/SuspenseIsEmptyPinLaw", name := "pick", desc := "(IIJ)J" } : Jvm.MethodName) method_2_code (4 : Nat) (Option.some Jvm.ClassFile.FieldType.long), Jvm.Cond.code ({ cls := "com/example/vestledger/vestledger/rules/Balance", name := "<init>", desc := "(JJ)V" } : Jvm.MethodName) prog_86_method_1_code (5 : Nat) (Option.none : Option Jvm.ClassFile.FieldType), Jvm.Cond.code ({ cls := "java/lang/Record", name := "<init>", desc := "()V" } : Jvm.MethodName) jdk_30_method_1_code (1 : Nat) (Option.none : Option Jvm.ClassFile.FieldType), Jvm.Cond.code ({ cls := "java/lang/Object", name := "<init>", desc := "()V" } : Jvm.MethodName) object_method_1_code (1 : Nat) (Option.none : Option Jvm.ClassFile.FieldType), Jvm.Cond.code ({ cls := "com/example/vestledger/vestledger/ledger/Suspense", name := "<init>", desc := "(Lcom/example/vestledger/vestledger/rules/Balance;Lcom/example/vestledger/vestledger/rules/Balance;)V" } : Jvm.MethodName) prog_69_method_1_code (3 : Nat) (Option.none : Option Jvm.ClassFile.FieldType), Jvm.Cond.code ({ cls := "java/util/Objects", name := "requireNonNull", desc := "(Ljava/lang/Object;Ljava/lang/String;)Ljava/lang/Object;" } : Jvm.MethodName) jdk_31_method_11_code (2 : Nat) (Option.some (Jvm.ClassFile.FieldType.object "java/lang/Object")), Jvm.Cond.code ({ cls := "com/example/vestledger/vestledger/ledger/Suspense", name := "isEmpty", desc := "()Z" } : Jvm.MethodName) prog_69_method_2_code (1 : Nat) (Option.some Jvm.ClassFile.FieldType.boolean), Jvm.Cond.code ({ cls := "com/example/vestledger/vestledger/rules/Balance", name := "isZero", desc := "()Z" } : Jvm.MethodName) prog_86_method_4_code (1 : Nat) (Option.some Jvm.ClassFile.FieldType.boolean)]
set_option maxRecDepth 65536 in
theorem codes_eq : words1.filter isCode = codes1 := rfl
theorem w_codes : ∀ c ∈ words1.filter isCode, c.before args0 about1 = true := by
  rw [codes_eq]
  intro c hc
  simp only [codes1, List.mem_cons, List.not_mem_nil, or_false] at hc
  rcases hc with rfl | rfl | rfl | rfl | rfl | rfl | rfl | rfl | rfl
  · exact w_c0
  · exact w_c1
  · exact w_c2
  · exact w_c3
  · exact w_c4
  · exact w_c5
  · exact w_c6
  · exact w_c7
  · exact w_c8
set_option maxRecDepth 65536 in
theorem w_t1 : (words1.take 24).all (fun c => isCode c || c.before args0 about1) = true := by decide +kernel
set_option maxRecDepth 65536 in
theorem w_t2 : ((words1.drop 24).take 24).all (fun c => isCode c || c.before args0 about1) = true := by decide +kernel
set_option maxRecDepth 65536 in
theorem w_t3 : ((words1.drop 24).drop 24).all (fun c => isCode c || c.before args0 about1) = true := by decide +kernel
theorem w_tables : (allAtoms (Jvm.Cond.code x code maxLocals ret :: tables_1)).before args0 about1 = true := by
  rw [allAtoms_all]
  show words1.all (fun c => c.before args0 about1) = true
  refine all_split ?_ w_codes
  rw [← List.take_append_drop 24 words1, List.all_append, w_t1, ← List.take_append_drop 24 (words1.drop 24), List.all_append, w_t2, w_t3]
  rfl
set_option maxRecDepth 65536 in
theorem w_case : (Jvm.Cond.and given_1 narrow_1).before args0 about1 = true := by decide +kernel
theorem w_applies : (headSpec (Jvm.Cond.code x code maxLocals ret :: tables_1) room_1).applies x e0.platform about1 = true :=
  (Spec.applies_iff w_frames).mpr ⟨w_running, w_runnable, w_alone, w_named, w_hears, w_ripe, w_room, w_tables⟩
theorem atStart : AtStart classFile x code maxLocals ret World_1 tables_1 room_1 Calls_1 rest_1 Pre_1 launch0 p0 e0 about1 theMethod args0 below0 :=
  ⟨lists_1, trivial, launch0.admits_env _ _ _, launch0.least_env, fairChoices_fair.cas, fairChoices_fair.clock, w_frames, w_args, w_heap, w_applies, trivial, trivial, w_case⟩
end start1
theorem witness_1 : WitnessClaimed_1 := ⟨start1.p0, start1.e0, start1.about1, start1.theMethod, start1.args0, start1.below0, start1.atStart⟩
end Jvm.Pilot.@@N@@
